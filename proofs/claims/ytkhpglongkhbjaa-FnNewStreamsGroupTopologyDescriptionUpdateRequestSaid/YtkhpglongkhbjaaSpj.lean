/- The reference's Default, of fields without parts at the top. -/
import Derived.Test.YtkhpglongkhbjaaSpi
namespace Go.Proofs.Ytkhpglongkhbjaa
open Go Go.RowKit

/-- No field is a part; the defaults fit 64 bits. -/
def PFs.flat : PFs → Prop
  | .nil => True
  | .cons k _ _ _ _ df _ _ rest => k ≠ 10 ∧ (-9223372036854775808 ≤ df ∧ df ≤ 9223372036854775807) ∧ rest.flat
/-- A tree that says a number and null alone, and its cells. -/
def flatT (df : Int) (nb : Bool) : Tree := .mk df [] nb [] []
def flatC (t : Tree) : List Value := [.int .i64 t.n, .slice none 0 0, .bool t.null, .slice none 0 0, .slice none 0 0]
theorem pDefault_flat {k fr to nu tg df ok : Int} {sub rest : PFs} (h : k ≠ 10) : pDefault (.cons k fr to nu tg df ok sub rest) = flatT df (decide (0 ≤ nu)) :: pDefault rest := by simp [pDefault, h, flatT]
/-- Trees that are flat. -/
def Flats (l : List Tree) : Prop := ∀ t, t ∈ l → ∃ df nb, t = flatT df nb ∧ -9223372036854775808 ≤ df ∧ df ≤ 9223372036854775807
theorem treeInfo : (Try.prog.info? 35).map (fun i => (i.zero, i.size, i.bytes)) = some (some (.agg #[.int .i64 0, .slice none 0 0, .bool false, .slice none 0 0, .slice none 0 0]), 5, 88) := by kernel_rfl

theorem flatC_get (l : List Tree) (i j : Nat) (t : Tree) (v : Value) (ht : l[i]? = some t) (hv : (flatC t)[j]? = some v) : (l.flatMap flatC)[5 * i + j]? = some v := by
  induction l generalizing i with
  | nil => simp at ht
  | cons x l ih =>
    rw [List.flatMap_cons]
    have hl : (flatC x).length = 5 := rfl
    have hj : j < 5 := by
      have := (List.getElem?_eq_some_iff.1 hv).1
      have h5 : (flatC t).length = 5 := rfl
      omega
    cases i with
    | zero =>
      simp at ht
      subst ht
      rw [List.getElem?_append_left (by omega)]
      simpa using hv
    | succ i =>
      rw [List.getElem?_append_right (by omega), hl, show 5 * (i + 1) + j - 5 = 5 * i + j by omega]
      exact ih i (by simpa using ht)
theorem Flats.repT {B : Nat} {w : World} {df : Int} {nb : Bool} (h0 : -9223372036854775808 ≤ df) (h1 : df ≤ 9223372036854775807) : RepT B w (flatC (flatT df nb)) (flatT df nb) :=
  .ofParts ⟨h0, h1⟩ (RL.nil _ _) (RepL.nil _ _) ⟨none, 0, rfl, Nat.le_refl _, by omega, fun h => absurd rfl h⟩
theorem Flats.repL {base : Nat} {w : World} {v : Value} {l : List Tree} (hf : Flats l) (h : w.ownsRow base 35 5 v l.length (l.flatMap flatC)) : RepL w.heap.size w l v := by
  have hlt := h.lt
  rcases h.2 with ⟨rfl, hn⟩ | ⟨g, cap, cur, rfl, hbg, hg, hn, hc, hcs, htake⟩
  · have : l = [] := List.eq_nil_of_length_eq_zero hn
    subst this
    exact RepL.nil _ _
  · refine ⟨some ⟨g, 0, none⟩, cap, fun i => flatC (l.getD i .zero), rfl, hn, by simpa [maxLen] using hc, fun _ => ⟨g, 0, rfl, (hlt g rfl).2, fun i hi => ⟨rfl, fun j u hu => ?_⟩⟩, fun i t ht => ?_⟩
    · have e : l.getD i .zero = l[i] := by rw [List.getD_eq_getElem?_getD, List.getElem?_eq_getElem hi]; rfl
      change (flatC (l.getD i .zero))[j]? = some u at hu
      rw [e] at hu
      have := World.ownsRow.cells h (g := g) rfl (5 * i + j) u (flatC_get l i j _ u (List.getElem?_eq_getElem hi) hu)
      rw [Addr.add_lit, ← Nat.add_assoc] at this
      exact this
    · have e : l.getD i .zero = t := by rw [List.getD_eq_getElem?_getD, ht]; rfl
      show RepT _ _ (flatC (l.getD i .zero)) t
      rw [e]
      obtain ⟨df, nb, rfl, h0, h1⟩ := hf t (List.mem_of_getElem? ht)
      exact Flats.repT h0 h1

def zeroT : List Value := [.int .i64 0, .slice none 0 0, .bool false, .slice none 0 0, .slice none 0 0]

theorem Blk.alloc_new3 (w : World) (o o' : Obj) (c : List Value) (T : Nat) : Blk (((w.alloc o).alloc o').alloc (.cells c.toArray T)) (w.heap.size + 2) c T := by
  have h := Blk.alloc_new ((w.alloc o).alloc o') c T
  rwa [show ((w.alloc o).alloc o').heap.size = w.heap.size + 2 by simp] at h
set_option maxRecDepth 100000 in
set_option maxHeartbeats 3200000 in
theorem spDefaultO (fs : PFs) (htag : fs.noTag) (hflat : fs.flat) (hsmall : fs.len ≤ 1000) (B base : Nat) (w : World) (fv : Value) (hB : B ≤ base) (hb : base ≤ w.heap.size) (hf : RepF B w fs fv) :
    Calls Try.prog 10 #[fv] w fun e w' => ∃ lv, e = .returned (.agg [.int .i64 0, .slice none 0 0, .bool false, lv, .slice none 0 0].toArray) ∧ w'.ownsRow (w.heap.size + 2) 35 5 lv (pDefault fs).length ((pDefault fs).flatMap flatC) ∧ Flats (pDefault fs) ∧ Below base w w' := by
  obtain ⟨fa, fcap, rfl, -⟩ := id hf
  obtain ⟨hmax, hne, L0⟩ := Left.start2 hf htag
  obtain ⟨n, hnn⟩ : ∃ n, fs.len = n := ⟨_, rfl⟩
  rw [hnn] at hmax hne L0 hf hsmall ⊢
  have hb2 : Blk ((w.alloc (.cells zeroT.toArray 35)).alloc (.cells zeroT.toArray 35)) w.heap.size zeroT 35 := (Blk.alloc_new w zeroT _).alloc _
  have hb3 := Blk.alloc_new2 w (.cells zeroT.toArray 35) zeroT 35
  have hbw := ((Below.refl base w).alloc hb (.cells zeroT.toArray 35)).alloc (Nat.le_trans hb (by simp)) (.cells zeroT.toArray 35)
  have e1 : ((w.alloc (.cells zeroT.toArray 35)).alloc (.cells zeroT.toArray 35)).heap.size = w.heap.size + 2 := by simp
  have H := Lib.hid (And.intro hb2 (And.intro hb3 (And.intro hbw (And.intro e1 (And.intro hne (And.intro L0 hflat))))))
  clear hb2 hb3 hbw e1 hne L0 hf hflat htag
  go_enter Try.func10, Try.ntmps10
  go_wp2_with fail
  go_loopw [9] (fun i wr => ∃ (k : Nat) (gs : PFs) (l : List Tree) (v : Value), i = .int .i64 k ∧ Left B w fa n k gs ∧ gs.flat ∧ l ++ pDefault gs = pDefault fs ∧ l.length = k ∧ Flats l ∧ wr.ownsRow (w.heap.size + 2) 35 5 v k (l.flatMap flatC) ∧
      Blk wr (w.heap.size + 1) [.int .i64 0, .slice none 0 0, .bool false, v, .slice none 0 0] 35 ∧ Blk wr w.heap.size zeroT 35 ∧ Below base w wr ∧ w.heap.size + 2 ≤ wr.heap.size)
    (fun i _ => n - (intOf i).toNat)
  case atStart =>
    obtain ⟨hb2, hb3, hbw, e1, hne, L0, hflat⟩ := H.out
    exact ⟨0, fs, [], _, rfl, L0, hflat, rfl, rfl, fun t h => by simp at h, World.ownsRow_nil _ _ _ 5, hb3, hb2, hbw, Nat.le_of_eq e1.symm⟩
  case round =>
    obtain ⟨k, gs, l, v, rfl, L, hflat, hl, hlk, hfl, hown, hb3, hb2, hbk, hsz⟩ := hrel
    obtain ⟨-, -, -, -, hne, -⟩ := H.out
    cases gs with
    | nil =>
      have hlen := L.len
      simp only [PFs.len, Nat.add_zero] at hlen
      subst hlen
      have e : l = pDefault fs := by rw [← hl]; simp [pDefault]
      subst hlk
      have hRL : RepL wr.heap.size wr l v := Flats.repL hfl hown
      obtain ⟨va, vc, vf, rfl, -⟩ := id hRL
      obtain ⟨y0, y1, y2, y3, y4⟩ := boxT hb3
      obtain ⟨x0, x1, x2, x3, x4⟩ := boxT hb2
      have f0 := hb2.frozen 0
      have f1 := hb2.frozen 1
      have f2 := hb2.frozen 2
      have f3 := hb2.frozen 3
      have f4 := hb2.frozen 4
      have Z := Lib.hid (And.intro e (And.intro hown (And.intro hb2 (And.intro hbk hfl))))
      clear e hRL hb2 hb3 hbk hown hfl hl L hflat hne H
      go_wp2
      obtain ⟨e, hown, hb2, hbk, hfl⟩ := Z.out
      have hB2 := ((((hb2.set 0 (.int .i64 0)).set 1 (.slice none 0 0)).set 2 (.bool false)).set 3 (.slice va l.length vc)).set 4 (.slice none 0 0)
      have hO := ownsRow_setCell_below (ownsRow_setCell_below (ownsRow_setCell_below (ownsRow_setCell_below (ownsRow_setCell_below hown (a := ⟨w.heap.size, 0, none⟩) (by show w.heap.size < w.heap.size + 2; omega) (.int .i64 0))
        (a := ⟨w.heap.size, 1, none⟩) (by show w.heap.size < w.heap.size + 2; omega) (.slice none 0 0)) (a := ⟨w.heap.size, 2, none⟩) (by show w.heap.size < w.heap.size + 2; omega) (.bool false))
        (a := ⟨w.heap.size, 3, none⟩) (by show w.heap.size < w.heap.size + 2; omega) (.slice va l.length vc)) (a := ⟨w.heap.size, 4, none⟩) (by show w.heap.size < w.heap.size + 2; omega) (.slice none 0 0)
      have hbf := ((((hbk.setCell (p := ⟨w.heap.size, 0, none⟩) hb (.int .i64 0)).setCell (p := ⟨w.heap.size, 1, none⟩) hb (.slice none 0 0)).setCell (p := ⟨w.heap.size, 2, none⟩) hb (.bool false)).setCell (p := ⟨w.heap.size, 3, none⟩) hb (.slice va l.length vc)).setCell (p := ⟨w.heap.size, 4, none⟩) hb (.slice none 0 0)
      refine ret_tree (f := 0) (g := w.heap.size) (cs := [.int .i64 0, .slice none 0 0, .bool false, .slice va l.length vc, .slice none 0 0]) rfl rfl hB2 rfl rfl ⟨_, rfl, e ▸ hO, e ▸ hfl, hbf⟩
    | cons kk fr to nu tg df ok sub rest =>
      have hlen := L.len
      simp only [PFs.len] at hlen
      have hkn : k < n := by omega
      obtain ⟨p, q, rfl, hp⟩ := hne (by omega)
      obtain ⟨⟨h1, h2, h3, h4, h5, h6, h7⟩, ⟨v8, h8, a8, cap8, rfl, hf8⟩, hrest⟩ := (L.cells p q rfl).below (hbk.mono hB) hp
      obtain ⟨hk10, hdf, hflr⟩ := hflat
      rw [pDefault_flat hk10] at hl
      have hpw : p < wr.heap.size := by have := hbk.size; omega
      have hww : ∀ o o', Below wr.heap.size wr ((wr.alloc o).alloc o') := fun o o' => ((Below.refl _ _).alloc (Nat.le_refl _) o).alloc (by simp) o'
      have z3 : ∀ o o', ((wr.alloc o).alloc o').cell? ⟨w.heap.size + 1, 3, none⟩ = some v := fun o o' => ((hww o o').cell (p := ⟨w.heap.size + 1, 3, none⟩) (by show w.heap.size + 1 < wr.heap.size; omega)).trans (hb3.cell_some rfl)
      have HW := Lib.hid hww
      clear hww
      have Z := Lib.hid (And.intro L.next (And.intro hdf (And.intro hflr (And.intro hl (And.intro hlk (And.intro hfl (And.intro hown (And.intro hb3 (And.intro hb2 hbk)))))))))
      clear L hflr hl hlk hfl hown hb3 hb2 hbk hrest hf8
      go_wp2_with (at_builtin; refine halted ?_)
      obtain ⟨hLn, hdf, hflr, hl, hlk, hfl, hown, hb3, hb2, hbk⟩ := Z.out
      obtain ⟨i0, hi, hz, hs, hby⟩ := info_parts treeInfo
      have c5 := Blk.alloc_new3 wr (.cells #[.int .i64 kk, .int .i64 fr, .int .i64 to, .int .i64 nu, .int .i64 tg, .int .i64 df, .int .i64 ok, .slice a8 sub.len cap8] 43)
        (.cells (flatC (flatT df (decide (0 ≤ nu)))).toArray 35) (flatC (flatT df (decide (0 ≤ nu)))) 35
      have hw3 := ((HW.out (.cells #[.int .i64 kk, .int .i64 fr, .int .i64 to, .int .i64 nu, .int .i64 tg, .int .i64 df, .int .i64 ok, .slice a8 sub.len cap8] 43)
        (.cells (flatC (flatT df (decide (0 ≤ nu)))).toArray 35)).alloc (by simp; omega) (.cells (flatC (flatT df (decide (0 ≤ nu)))).toArray 35))
      refine wpl_append_src rfl (.tmp 28) (.tmp 30) 32 32 rfl (w.heap.size + 2) 35 i0 _ 5 88 Try.underlying32 hi hz hs hby rfl v k (l.flatMap flatC) rfl
        (((World.ownsRow.alloc hown _).alloc _).alloc _) (.slice (some ⟨wr.heap.size + 2, 0, none⟩) 1 1) 1 (flatC (flatT df (decide (0 ≤ nu)))) rfl (Src.ofSlice _ Try.underlying32 _ 1 1 _ rfl ?_ ?_) (by unfold maxLen; omega) (by omega) (by simp; omega) ?_
      · intro j u hj
        rw [Addr.add_lit]
        exact c5.cell_some (by simpa using hj)
      · intro u hu
        simp only [flatC, List.mem_cons, List.not_mem_nil, or_false] at hu
        rcases hu with rfl | rfl | rfl | rfl | rfl <;> rfl
      intro v' w6 hown6 hg6 _
      have hbw6 : Below (w.heap.size + 2) wr w6 := (hw3.mono (by omega)).trans ((Below.refl _ _).grown hg6 (by simp; omega) (fun k hk => (hown.lt k hk).1))
      have hb36 := hb3.below hbw6 (by omega)
      have hb26 := hb2.below hbw6 (by omega)
      have z6 : w6.cell? ⟨w.heap.size + 1, 3, none⟩ = some v := hb36.cell_some rfl
      have f6 : w6.frozen? ⟨w.heap.size + 1, 3, none⟩ = false := hb36.frozen 3
      have hlen6 := hown6.2
      rcases hlen6 with ⟨-, hz0⟩ | ⟨g, cap, cur, rfl, -⟩
      · omega
      have hfin : ∃ (k' : Nat) (gs : PFs) (l : List Tree) (v : Value), Value.int .i64 ((k : Int) + 1) = .int .i64 k' ∧ Left B w (some ⟨p, q, none⟩) n k' gs ∧ gs.flat ∧ l ++ pDefault gs = pDefault fs ∧ l.length = k' ∧ Flats l ∧
          (w6.setCell ⟨w.heap.size + 1, 3, none⟩ (.slice (some ⟨g, 0, none⟩) (k + 1) cap)).ownsRow (w.heap.size + 2) 35 5 v k' (l.flatMap flatC) ∧
          Blk (w6.setCell ⟨w.heap.size + 1, 3, none⟩ (.slice (some ⟨g, 0, none⟩) (k + 1) cap)) (w.heap.size + 1) [.int .i64 0, .slice none 0 0, .bool false, v, .slice none 0 0] 35 ∧
          Blk (w6.setCell ⟨w.heap.size + 1, 3, none⟩ (.slice (some ⟨g, 0, none⟩) (k + 1) cap)) w.heap.size zeroT 35 ∧ Below base w (w6.setCell ⟨w.heap.size + 1, 3, none⟩ (.slice (some ⟨g, 0, none⟩) (k + 1) cap)) ∧
          w.heap.size + 2 ≤ (w6.setCell ⟨w.heap.size + 1, 3, none⟩ (.slice (some ⟨g, 0, none⟩) (k + 1) cap)).heap.size := by
        refine ⟨k + 1, rest, l ++ [flatT df (decide (0 ≤ nu))], _, rfl, hLn, hflr, by rw [List.append_assoc]; exact hl, by simp [hlk], ?_, ?_, hb36.set 3 _, hb26.set_other (by omega) 3 _, (hbk.trans (hbw6.mono (by omega))).setCell (by show base ≤ w.heap.size + 1; omega) _, ?_⟩
        · intro t ht
          rcases List.mem_append.1 ht with ht | ht
          · exact hfl t ht
          · rw [List.mem_singleton] at ht
            exact ⟨df, _, ht, hdf.1, hdf.2⟩
        · rw [List.flatMap_append]
          simp only [List.flatMap_cons, List.flatMap_nil, List.append_nil]
          exact ownsRow_setCell_below hown6 (by show w.heap.size + 1 < w.heap.size + 2; omega) _
        · have := hbw6.size
          simp
          omega
      have FIN := Lib.hid hfin
      clear hfin hLn hdf hflr hl hlk hfl hown hb3 hb2 hbk hi hz hs hby c5 hw3 hown6 hg6 hbw6 hb36 hb26
      go_wp2
      go_roundw
      case rel => exact FIN.out
      case measure => simp [intOf]; omega
theorem spDefault (fs : PFs) (htag : fs.noTag) (hflat : fs.flat) (hsmall : fs.len ≤ 1000) (B base : Nat) (w : World) (fv : Value) (hB : B ≤ base) (hb : base ≤ w.heap.size) (hf : RepF B w fs fv) :
    Calls Try.prog 10 #[fv] w fun e w' => ∃ c, e = .returned (.agg c.toArray) ∧ RepT w'.heap.size w' c (.mk 0 [] false (pDefault fs) []) ∧ Below base w w' :=
  (spDefaultO fs htag hflat hsmall B base w fv hB hb hf).mono fun e w' ⟨lv, he, hO, hfl, hbf⟩ => ⟨_, he, .ofParts ⟨by omega, by omega⟩ (RL.nil _ _) (Flats.repL hfl hO) ⟨none, 0, rfl, Nat.le_refl _, by omega, fun h => absurd rfl h⟩, hbf⟩
end Go.Proofs.Ytkhpglongkhbjaa
