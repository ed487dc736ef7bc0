/- The reference's Default, of fields of which the last one may be a part (of fields without parts). -/
import Derived.Test.YtkhpglongkhbjaaSpj
namespace Go.Proofs.Ytkhpglongkhbjaa
open Go Go.RowKit
set_option linter.unusedVariables false

def PFs.flatL : PFs → Prop
  | .nil => True
  | .cons k _ _ _ _ df _ sub rest => (-9223372036854775808 ≤ df ∧ df ≤ 9223372036854775807) ∧ ((k ≠ 10 ∧ rest.flatL) ∨ (k = 10 ∧ sub.flat ∧ sub.len ≤ 1000 ∧ sub.noTag ∧ rest = .nil))
def partC (df : Int) (nb : Bool) (lv : Value) : List Value := [.int .i64 df, .slice none 0 0, .bool nb, lv, .slice none 0 0]
inductive FinL (b0 : Nat) (wr : World) (v : Value) (L : List Tree) : Prop
  | flat (hf : Flats L) (ho : wr.ownsRow b0 35 5 v L.length (L.flatMap flatC))
  | part (l : List Tree) (df : Int) (nb : Bool) (ll : List Tree) (lv : Value) (hL : L = l ++ [.mk df [] nb ll []]) (hf : Flats l) (hr : -9223372036854775808 ≤ df ∧ df ≤ 9223372036854775807) (hl : Flats ll)
      (ho : wr.ownsRow b0 35 5 v L.length (l.flatMap flatC ++ partC df nb lv)) (hs : wr.ownsRow b0 35 5 lv ll.length (ll.flatMap flatC))
theorem FinL.set {b0 : Nat} {wr : World} {v : Value} {L : List Tree} (h : FinL b0 wr v L) {a : Addr} (ha : a.block < b0) (x : Value) : FinL b0 (wr.setCell a x) v L := by
  cases h with
  | flat hf ho => exact .flat hf (ownsRow_setCell_below ho ha x)
  | part l df nb ll lv hL hf hr hl ho hs => exact .part l df nb ll lv hL hf hr hl (ownsRow_setCell_below ho ha x) (ownsRow_setCell_below hs ha x)
theorem flatC_len (l : List Tree) : (l.flatMap flatC).length = 5 * l.length := by
  induction l with
  | nil => rfl
  | cons a l ih => rw [List.flatMap_cons, List.length_append, ih, List.length_cons]; show 5 + 5 * l.length = _; omega
theorem FinL.repL {b0 : Nat} {wr : World} {v : Value} {L : List Tree} (h : FinL b0 wr v L) : RepL wr.heap.size wr L v := by
  cases h with
  | flat hf ho => exact Flats.repL hf ho
  | part l df nb ll lv hL hf hr hl ho hs =>
    have hlt := ho.lt
    have hlen : L.length = l.length + 1 := by rw [hL]; simp
    have hcells := fun g hg => World.ownsRow.cells ho (g := g) hg
    rcases ho.2 with ⟨rfl, hn⟩ | ⟨g, cap, cur, rfl, hbg, hg, hn, hc, hcs, htake⟩
    · omega
    · refine ⟨some ⟨g, 0, none⟩, cap, fun i => if i < l.length then flatC (l.getD i .zero) else partC df nb lv, rfl, hn, by simpa [maxLen] using hc, fun _ => ⟨g, 0, rfl, (hlt g rfl).2, fun i hi => ⟨?_, fun j u hu => ?_⟩⟩, fun i t ht => ?_⟩
      · dsimp only
        split <;> rfl
      · have hx : (l.flatMap flatC ++ partC df nb lv)[5 * i + j]? = some u := by
          by_cases hil : i < l.length
          · simp only [hil, if_true] at hu
            have e : l.getD i .zero = l[i] := by rw [List.getD_eq_getElem?_getD, List.getElem?_eq_getElem hil]; rfl
            rw [e] at hu
            have h1 := flatC_get l i j _ u (List.getElem?_eq_getElem hil) hu
            rw [List.getElem?_append_left (List.getElem?_eq_some_iff.1 h1).1]
            exact h1
          · simp only [hil, if_false] at hu
            have : i = l.length := by omega
            subst this
            rw [List.getElem?_append_right (by rw [flatC_len]; omega), flatC_len, Nat.add_sub_cancel_left]
            exact hu
        have := hcells g rfl (5 * i + j) u hx
        rw [Addr.add_lit, ← Nat.add_assoc] at this
        exact this
      · by_cases hil : i < l.length
        · simp only [hil, if_true]
          have e : l.getD i .zero = t := by
            rw [hL, List.getElem?_append_left hil] at ht
            rw [List.getD_eq_getElem?_getD, ht]; rfl
          rw [e]
          rw [hL, List.getElem?_append_left hil] at ht
          obtain ⟨df, nb, rfl, h0, h1⟩ := hf t (List.mem_of_getElem? ht)
          exact Flats.repT h0 h1
        · simp only [hil, if_false]
          have hi2 : i < L.length := (List.getElem?_eq_some_iff.1 ht).1
          have : i = l.length := by omega
          subst this
          rw [hL] at ht
          simp at ht
          subst ht
          exact .ofParts hr (RL.nil _ _) (Flats.repL hl hs) ⟨none, 0, rfl, Nat.le_refl _, by omega, fun h => absurd rfl h⟩

theorem fieldV (x3 : Value) (w : World) : (Instr.field 35 (.agg #[.int .i64 0, .slice none 0 0, .bool false, x3, .slice none 0 0]) 3).run Try.prog w = .ok x3 w := by
  simp [Instr.field, run_underlying Try.underlying35, run_underlying Try.underlying32, part, isAgg, asAgg]

set_option maxRecDepth 100000 in
set_option maxHeartbeats 3200000 in
theorem spDefaultL (fs : PFs) (htag : fs.noTag) (hflat : fs.flatL) (hsmall : fs.len ≤ 1000) (B base : Nat) (w : World) (fv : Value) (hB : B ≤ base) (hb : base ≤ w.heap.size) (hf : RepF B w fs fv) :
    Calls Try.prog 10 #[fv] w fun e w' => ∃ c, e = .returned (.agg c.toArray) ∧ RepT w'.heap.size w' c (.mk 0 [] false (pDefault fs) []) ∧ Below base w w' := by
  obtain ⟨fa, fcap, rfl, -⟩ := id hf
  obtain ⟨hmax, hne, L0⟩ := Left.start2 hf htag
  obtain ⟨n, hnn⟩ : ∃ n, fs.len = n := ⟨_, rfl⟩
  rw [hnn] at hmax hne L0 hf hsmall ⊢
  have hb2 : Blk ((w.alloc (.cells zeroT.toArray 35)).alloc (.cells zeroT.toArray 35)) w.heap.size zeroT 35 := (Blk.alloc_new w zeroT _).alloc _
  have hb3 := Blk.alloc_new2 w (.cells zeroT.toArray 35) zeroT 35
  have hbw := ((Below.refl base w).alloc hb (.cells zeroT.toArray 35)).alloc (Nat.le_trans hb (by simp)) (.cells zeroT.toArray 35)
  have e1 : ((w.alloc (.cells zeroT.toArray 35)).alloc (.cells zeroT.toArray 35)).heap.size = w.heap.size + 2 := by simp
  have H := Lib.hid (And.intro hb2 (And.intro hb3 (And.intro hbw (And.intro e1 (And.intro hne (And.intro L0 hflat))))))
  clear hb2 hb3 hbw e1 hne L0 hf hflat htag
  go_enter Try.func10, Try.ntmps10
  go_wp2_with fail
  go_loopw [9] (fun i wr => ∃ (k : Nat) (gs : PFs) (l : List Tree) (v : Value), i = .int .i64 k ∧ Left B w fa n k gs ∧ gs.flatL ∧ l ++ pDefault gs = pDefault fs ∧ l.length = k ∧ (FinL (w.heap.size + 2) wr v l ∧ (gs ≠ .nil → Flats l ∧ wr.ownsRow (w.heap.size + 2) 35 5 v k (l.flatMap flatC))) ∧
      Blk wr (w.heap.size + 1) [.int .i64 0, .slice none 0 0, .bool false, v, .slice none 0 0] 35 ∧ Blk wr w.heap.size zeroT 35 ∧ Below base w wr ∧ w.heap.size + 2 ≤ wr.heap.size)
    (fun i _ => n - (intOf i).toNat)
  case atStart =>
    obtain ⟨hb2, hb3, hbw, e1, hne, L0, hflat⟩ := H.out
    exact ⟨0, fs, [], _, rfl, L0, hflat, rfl, rfl, ⟨.flat (fun t h => by simp at h) (World.ownsRow_nil _ _ _ 5), fun _ => ⟨fun t h => by simp at h, World.ownsRow_nil _ _ _ 5⟩⟩, hb3, hb2, hbw, Nat.le_of_eq e1.symm⟩
  case round =>
    obtain ⟨k, gs, l, v, rfl, L, hflat, hl, hlk, ⟨hfin0, hst⟩, hb3, hb2, hbk, hsz⟩ := hrel
    obtain ⟨-, -, -, -, hne, -⟩ := H.out
    cases gs with
    | nil =>
      have hlen := L.len
      simp only [PFs.len, Nat.add_zero] at hlen
      subst hlen
      have e : l = pDefault fs := by rw [← hl]; simp [pDefault]
      subst hlk
      have hRL : RepL wr.heap.size wr l v := hfin0.repL
      obtain ⟨va, vc, vf, rfl, -⟩ := id hRL
      obtain ⟨y0, y1, y2, y3, y4⟩ := boxT hb3
      obtain ⟨x0, x1, x2, x3, x4⟩ := boxT hb2
      have f0 := hb2.frozen 0
      have f1 := hb2.frozen 1
      have f2 := hb2.frozen 2
      have f3 := hb2.frozen 3
      have f4 := hb2.frozen 4
      have Z := Lib.hid (And.intro e (And.intro hfin0 (And.intro hb2 hbk)))
      clear e hRL hb2 hb3 hbk hfin0 hst hl L hflat hne H
      go_wp2
      obtain ⟨e, hfin0, hb2, hbk⟩ := Z.out
      have hB2 := ((((hb2.set 0 (.int .i64 0)).set 1 (.slice none 0 0)).set 2 (.bool false)).set 3 (.slice va l.length vc)).set 4 (.slice none 0 0)
      have hO := ((((hfin0.set (a := ⟨w.heap.size, 0, none⟩) (by show w.heap.size < w.heap.size + 2; omega) (.int .i64 0)).set (a := ⟨w.heap.size, 1, none⟩) (by show w.heap.size < w.heap.size + 2; omega) (.slice none 0 0)).set (a := ⟨w.heap.size, 2, none⟩) (by show w.heap.size < w.heap.size + 2; omega) (.bool false)).set
        (a := ⟨w.heap.size, 3, none⟩) (by show w.heap.size < w.heap.size + 2; omega) (.slice va l.length vc)).set (a := ⟨w.heap.size, 4, none⟩) (by show w.heap.size < w.heap.size + 2; omega) (.slice none 0 0)
      have hbf := ((((hbk.setCell (p := ⟨w.heap.size, 0, none⟩) hb (.int .i64 0)).setCell (p := ⟨w.heap.size, 1, none⟩) hb (.slice none 0 0)).setCell (p := ⟨w.heap.size, 2, none⟩) hb (.bool false)).setCell (p := ⟨w.heap.size, 3, none⟩) hb (.slice va l.length vc)).setCell (p := ⟨w.heap.size, 4, none⟩) hb (.slice none 0 0)
      refine ret_tree (f := 0) (g := w.heap.size) (cs := [.int .i64 0, .slice none 0 0, .bool false, .slice va l.length vc, .slice none 0 0]) rfl rfl hB2 rfl rfl ⟨_, rfl, ?_, hbf⟩
      exact .ofParts ⟨by omega, by omega⟩ (RL.nil _ _) (e ▸ hO.repL) ⟨none, 0, rfl, Nat.le_refl _, by omega, fun h => absurd rfl h⟩
    | cons kk fr to nu tg df ok sub rest =>
      have hlen := L.len
      simp only [PFs.len] at hlen
      have hkn : k < n := by omega
      obtain ⟨p, q, rfl, hp⟩ := hne (by omega)
      obtain ⟨⟨h1, h2, h3, h4, h5, h6, h7⟩, ⟨v8, h8, a8, cap8, rfl, hf8⟩, hrest⟩ := (L.cells p q rfl).below (hbk.mono hB) hp
      obtain ⟨hfl, hown⟩ := hst (fun h => by cases h)
      clear hst hfin0
      obtain ⟨hdf, ⟨hk10, hflr⟩ | ⟨hk10, hsubf, hsubn, hsubt, hrest0⟩⟩ := hflat
      · rw [pDefault_flat hk10] at hl
        have hpw : p < wr.heap.size := by have := hbk.size; omega
        have hww : ∀ o o', Below wr.heap.size wr ((wr.alloc o).alloc o') := fun o o' => ((Below.refl _ _).alloc (Nat.le_refl _) o).alloc (by simp) o'
        have z3 : ∀ o o', ((wr.alloc o).alloc o').cell? ⟨w.heap.size + 1, 3, none⟩ = some v := fun o o' => ((hww o o').cell (p := ⟨w.heap.size + 1, 3, none⟩) (by show w.heap.size + 1 < wr.heap.size; omega)).trans (hb3.cell_some rfl)
        have HW := Lib.hid hww
        clear hww
        have Z := Lib.hid (And.intro L.next (And.intro hdf (And.intro hflr (And.intro hl (And.intro hlk (And.intro hfl (And.intro hown (And.intro hb3 (And.intro hb2 hbk)))))))))
        clear L hflr hl hlk hfl hown hb3 hb2 hbk hrest hf8
        go_wp2_with (at_builtin; refine halted ?_)
        obtain ⟨hLn, hdf, hflr, hl, hlk, hfl, hown, hb3, hb2, hbk⟩ := Z.out
        obtain ⟨i0, hi, hz, hs, hby⟩ := info_parts treeInfo
        have c5 := Blk.alloc_new3 wr (.cells #[.int .i64 kk, .int .i64 fr, .int .i64 to, .int .i64 nu, .int .i64 tg, .int .i64 df, .int .i64 ok, .slice a8 sub.len cap8] 43)
          (.cells (flatC (flatT df (decide (0 ≤ nu)))).toArray 35) (flatC (flatT df (decide (0 ≤ nu)))) 35
        have hw3 := ((HW.out (.cells #[.int .i64 kk, .int .i64 fr, .int .i64 to, .int .i64 nu, .int .i64 tg, .int .i64 df, .int .i64 ok, .slice a8 sub.len cap8] 43)
          (.cells (flatC (flatT df (decide (0 ≤ nu)))).toArray 35)).alloc (by simp; omega) (.cells (flatC (flatT df (decide (0 ≤ nu)))).toArray 35))
        refine wpl_append_src rfl (.tmp 28) (.tmp 30) 32 32 rfl (w.heap.size + 2) 35 i0 _ 5 88 Try.underlying32 hi hz hs hby rfl v k (l.flatMap flatC) rfl
          (((World.ownsRow.alloc hown _).alloc _).alloc _) (.slice (some ⟨wr.heap.size + 2, 0, none⟩) 1 1) 1 (flatC (flatT df (decide (0 ≤ nu)))) rfl (Src.ofSlice _ Try.underlying32 _ 1 1 _ rfl ?_ ?_) (by unfold maxLen; omega) (by omega) (by simp; omega) ?_
        · intro j u hj
          rw [Addr.add_lit]
          exact c5.cell_some (by simpa using hj)
        · intro u hu
          simp only [flatC, List.mem_cons, List.not_mem_nil, or_false] at hu
          rcases hu with rfl | rfl | rfl | rfl | rfl <;> rfl
        intro v' w6 hown6 hg6 _
        have hbw6 : Below (w.heap.size + 2) wr w6 := (hw3.mono (by omega)).trans ((Below.refl _ _).grown hg6 (by simp; omega) (fun k hk => (hown.lt k hk).1))
        have hb36 := hb3.below hbw6 (by omega)
        have hb26 := hb2.below hbw6 (by omega)
        have z6 : w6.cell? ⟨w.heap.size + 1, 3, none⟩ = some v := hb36.cell_some rfl
        have f6 : w6.frozen? ⟨w.heap.size + 1, 3, none⟩ = false := hb36.frozen 3
        have hlen6 := hown6.2
        rcases hlen6 with ⟨-, hz0⟩ | ⟨g, cap, cur, rfl, -⟩
        · omega
        have hfin : ∃ (k' : Nat) (gs : PFs) (l : List Tree) (v : Value), Value.int .i64 ((k : Int) + 1) = .int .i64 k' ∧ Left B w (some ⟨p, q, none⟩) n k' gs ∧ gs.flatL ∧ l ++ pDefault gs = pDefault fs ∧ l.length = k' ∧
            (FinL (w.heap.size + 2) (w6.setCell ⟨w.heap.size + 1, 3, none⟩ (.slice (some ⟨g, 0, none⟩) (k + 1) cap)) v l ∧ (gs ≠ .nil → Flats l ∧ (w6.setCell ⟨w.heap.size + 1, 3, none⟩ (.slice (some ⟨g, 0, none⟩) (k + 1) cap)).ownsRow (w.heap.size + 2) 35 5 v k' (l.flatMap flatC))) ∧
            Blk (w6.setCell ⟨w.heap.size + 1, 3, none⟩ (.slice (some ⟨g, 0, none⟩) (k + 1) cap)) (w.heap.size + 1) [.int .i64 0, .slice none 0 0, .bool false, v, .slice none 0 0] 35 ∧
            Blk (w6.setCell ⟨w.heap.size + 1, 3, none⟩ (.slice (some ⟨g, 0, none⟩) (k + 1) cap)) w.heap.size zeroT 35 ∧ Below base w (w6.setCell ⟨w.heap.size + 1, 3, none⟩ (.slice (some ⟨g, 0, none⟩) (k + 1) cap)) ∧
            w.heap.size + 2 ≤ (w6.setCell ⟨w.heap.size + 1, 3, none⟩ (.slice (some ⟨g, 0, none⟩) (k + 1) cap)).heap.size := by
          refine ⟨k + 1, rest, l ++ [flatT df (decide (0 ≤ nu))], _, rfl, hLn, hflr, by rw [List.append_assoc]; exact hl, by simp [hlk], (fun hA hB => ⟨.flat hA (by rw [List.length_append, hlk]; exact hB), fun _ => ⟨hA, hB⟩⟩ : _ → _ → _) ?_ ?_, hb36.set 3 _, hb26.set_other (by omega) 3 _, (hbk.trans (hbw6.mono (by omega))).setCell (by show base ≤ w.heap.size + 1; omega) _, ?_⟩
          · intro t ht
            rcases List.mem_append.1 ht with ht | ht
            · exact hfl t ht
            · rw [List.mem_singleton] at ht
              exact ⟨df, _, ht, hdf.1, hdf.2⟩
          · rw [List.flatMap_append]
            simp only [List.flatMap_cons, List.flatMap_nil, List.append_nil]
            exact ownsRow_setCell_below hown6 (by show w.heap.size + 1 < w.heap.size + 2; omega) _
          · have := hbw6.size
            simp
            omega
        have FIN := Lib.hid hfin
        clear hfin hLn hdf hflr hl hlk hfl hown hb3 hb2 hbk hi hz hs hby c5 hw3 hown6 hg6 hbw6 hb36 hb26
        go_wp2
        go_roundw
        case rel => exact FIN.out
        case measure => simp [intOf]; omega
      · subst hk10
        subst hrest0
        clear hrest
        have hl2 : l ++ [.mk df [] (decide (0 ≤ nu)) (pDefault sub) []] = pDefault fs := by rw [← hl]; simp [pDefault]
        have hpw : p < wr.heap.size := by have := hbk.size; omega
        have hww : ∀ o o', Below wr.heap.size wr ((wr.alloc o).alloc o') := fun o o' => ((Below.refl _ _).alloc (Nat.le_refl _) o).alloc (by simp) o'
        have HW := Lib.hid hww
        clear hww
        have Z := Lib.hid (And.intro L.next (And.intro hdf (And.intro hl2 (And.intro hlk (And.intro hfl (And.intro hown (And.intro hb3 (And.intro hb2 hbk))))))))
        clear L hl hl2 hlk hfl hown hb3 hb2 hbk
        go_wp2_with fail
        refine (spDefaultO sub hsubt hsubf hsubn B ((wr.alloc (.cells #[.int .i64 10, .int .i64 fr, .int .i64 to, .int .i64 nu, .int .i64 tg, .int .i64 df, .int .i64 ok, .slice a8 sub.len cap8] 43)).alloc (.cells (flatC (flatT df (decide (0 ≤ nu)))).toArray 35)).heap.size ((wr.alloc (.cells #[.int .i64 10, .int .i64 fr, .int .i64 to, .int .i64 nu, .int .i64 tg, .int .i64 df, .int .i64 ok, .slice a8 sub.len cap8] 43)).alloc (.cells (flatC (flatT df (decide (0 ≤ nu)))).toArray 35)) (.slice a8 sub.len cap8) (by simp; omega) (Nat.le_refl _) (RepF.below (w := wr) ⟨a8, cap8, rfl, hf8⟩ ((HW.out (.cells #[.int .i64 10, .int .i64 fr, .int .i64 to, .int .i64 nu, .int .i64 tg, .int .i64 df, .int .i64 ok, .slice a8 sub.len cap8] 43) (.cells (flatC (flatT df (decide (0 ≤ nu)))).toArray 35)).mono (by omega)))).mono ?_
        rintro e w7 ⟨lv, rfl, hOlv, hflv, hb7⟩
        obtain ⟨la, lc, rfl⟩ := ownsRow_shape hOlv
        obtain ⟨m, hm⟩ : ∃ m, (pDefault sub).length = m := ⟨_, rfl⟩
        rw [hm] at hOlv ⊢
        have e2 : ((wr.alloc (.cells #[.int .i64 10, .int .i64 fr, .int .i64 to, .int .i64 nu, .int .i64 tg, .int .i64 df, .int .i64 ok, .slice a8 sub.len cap8] 43)).alloc (.cells (flatC (flatT df (decide (0 ≤ nu)))).toArray 35)).heap.size = wr.heap.size + 2 := by simp
        have z7 := hb7.size
        rw [e2] at hOlv z7 hb7
        have hW27 := HW.out (.cells #[.int .i64 10, .int .i64 fr, .int .i64 to, .int .i64 nu, .int .i64 tg, .int .i64 df, .int .i64 ok, .slice a8 sub.len cap8] 43) (.cells (flatC (flatT df (decide (0 ≤ nu)))).toArray 35)
        have hw7 : Below wr.heap.size wr w7 := hW27.trans (hb7.mono (by omega))
        have hT := (Blk.alloc_new2 wr (.cells #[.int .i64 10, .int .i64 fr, .int .i64 to, .int .i64 nu, .int .i64 tg, .int .i64 df, .int .i64 ok, .slice a8 sub.len cap8] 43) (flatC (flatT df (decide (0 ≤ nu)))) 35).below hb7 (by omega)
        have s3 := (Z.out.2.2.2.2.2.2.1).below hw7 (by omega)
        have hT8 : Blk (w7.setCell ⟨wr.heap.size + 1, 3, none⟩ (.slice la m lc)) (wr.heap.size + 1) (partC df (decide (0 ≤ nu)) (.slice la m lc)) 35 := hT.set 3 (.slice la m lc)
        have s38 := s3.set_other (by omega) 3 (.slice la m lc) (b' := wr.heap.size + 1)
        obtain ⟨t0, t1, t2, t3, t4⟩ := boxT hT8
        have ft := hT.frozen 3
        have q3 : w7.cell? ⟨wr.heap.size + 1, 3, none⟩ = some (.slice none 0 0) := hT.cell_some rfl
        have z3 : (w7.setCell ⟨wr.heap.size + 1, 3, none⟩ (.slice la m lc)).cell? ⟨w.heap.size + 1, 3, none⟩ = some v := s38.cell_some rfl
        have Y := Lib.hid (And.intro hOlv (And.intro hflv (And.intro hb7 (And.intro hw7 (And.intro s38 (And.intro e2 hm))))))
        clear hOlv hflv hb7 hw7 hT s3 hT8 s38 hW27 hf8 e2 hm HW
        have hfv := fieldV
        go_wp2_with (at_builtin; refine halted ?_)
        clear hfv
        obtain ⟨hOlv, hflv, hb7, hw7, s38, e2, hm⟩ := Y.out
        obtain ⟨hLn, hdf, hl2, hlk, hfl, hown, -, hb2, hbk⟩ := Z.out
        have hb28 : Blk (w7.setCell ⟨wr.heap.size + 1, 3, none⟩ (.slice la m lc)) w.heap.size zeroT 35 := (hb2.below hw7 (by omega)).set_other (by omega) 3 _
        have hown8 : (w7.setCell ⟨wr.heap.size + 1, 3, none⟩ (.slice la m lc)).ownsRow (w.heap.size + 2) 35 5 v k (l.flatMap flatC) := ownsRow_setCell_other (ownsRow_stay hown hw7 (Nat.le_refl _)) (fun he => by have := (hown.lt _ he).2; simp at this; omega) _
        have hOlv8 : (w7.setCell ⟨wr.heap.size + 1, 3, none⟩ (.slice la m lc)).ownsRow (w.heap.size + 2) 35 5 (.slice la m lc) m ((pDefault sub).flatMap flatC) := ownsRow_mono (ownsRow_setCell_below hOlv (by show wr.heap.size + 1 < wr.heap.size + 2 + 2; omega) _) (by omega)
        have hdiff : (Value.slice la m lc).ownBlock = none ∨ (Value.slice la m lc).ownBlock ≠ v.ownBlock := by
          cases la with
          | none => exact .inl rfl
          | some a =>
            refine .inr fun he => ?_
            have h1 := (hOlv.lt a.block rfl).1
            have h2 := (hown.lt a.block he.symm).2
            omega
        have e8 : (w7.setCell ⟨wr.heap.size + 1, 3, none⟩ (.slice la m lc)).heap.size = w7.heap.size := by simp
        have hbw8 : Below (w.heap.size + 2) wr (w7.setCell ⟨wr.heap.size + 1, 3, none⟩ (.slice la m lc)) := (hw7.mono (by omega)).setCell (by show w.heap.size + 2 ≤ wr.heap.size + 1; omega) _
        obtain ⟨i0, hi, hz, hs, hby⟩ := info_parts treeInfo
        have c5 := Blk.alloc_new (w7.setCell ⟨wr.heap.size + 1, 3, none⟩ (.slice la m lc)) (partC df (decide (0 ≤ nu)) (.slice la m lc)) 35
        refine wpl_append_src rfl (.tmp 28) (.tmp 30) 32 32 rfl (w.heap.size + 2) 35 i0 _ 5 88 Try.underlying32 hi hz hs hby rfl v k (l.flatMap flatC) rfl
          (World.ownsRow.alloc hown8 _) (.slice (some ⟨w7.heap.size, 0, none⟩) 1 1) 1 (partC df (decide (0 ≤ nu)) (.slice la m lc)) rfl (Src.ofSlice _ Try.underlying32 _ 1 1 _ rfl ?_ ?_) (by unfold maxLen; omega) (by omega) (by simp; omega) ?_
        · intro j u hj
          rw [Addr.add_lit]
          rw [← e8]
          exact c5.cell_some (by simpa using hj)
        · intro u hu
          simp only [partC, List.mem_cons, List.not_mem_nil, or_false] at hu
          rcases hu with rfl | rfl | rfl | rfl | rfl <;> rfl
        intro v' w9 hown9 hg9 _
        have hOlv9 : w9.ownsRow (w.heap.size + 2) 35 5 (.slice la m lc) m ((pDefault sub).flatMap flatC) := World.ownsRow.kept (World.ownsRow.alloc hOlv8 _) hg9 hdiff
        have hbw9 : Below (w.heap.size + 2) wr w9 := (hbw8.alloc (by omega) (.cells (partC df (decide (0 ≤ nu)) (.slice la m lc)).toArray 35)).grown hg9 (by simp; omega) (fun k hk => (hown8.lt k hk).1)
        have hb39 := (Z.out.2.2.2.2.2.2.1).below hbw9 (by omega)
        have hb29 := hb2.below hbw9 (by omega)
        have z9 : w9.cell? ⟨w.heap.size + 1, 3, none⟩ = some v := hb39.cell_some rfl
        have f9 : w9.frozen? ⟨w.heap.size + 1, 3, none⟩ = false := hb39.frozen 3
        have hlen9 := hown9.2
        rcases hlen9 with ⟨-, hz0⟩ | ⟨g, cap, cur, rfl, -⟩
        · omega
        have hFO : (w9.setCell ⟨w.heap.size + 1, 3, none⟩ (.slice (some ⟨g, 0, none⟩) (k + 1) cap)).ownsRow (w.heap.size + 2) 35 5 (.slice (some ⟨g, 0, none⟩) (k + 1) cap) (k + 1) (l.flatMap flatC ++ (partC df (decide (0 ≤ nu)) (.slice la m lc))) := ownsRow_setCell_below hown9 (by show w.heap.size + 1 < w.heap.size + 2; omega) _
        have hFL : (w9.setCell ⟨w.heap.size + 1, 3, none⟩ (.slice (some ⟨g, 0, none⟩) (k + 1) cap)).ownsRow (w.heap.size + 2) 35 5 (.slice la m lc) m ((pDefault sub).flatMap flatC) := ownsRow_setCell_below hOlv9 (by show w.heap.size + 1 < w.heap.size + 2; omega) _
        have hfin : ∃ (k' : Nat) (gs : PFs) (l : List Tree) (v : Value), Value.int .i64 ((k : Int) + 1) = .int .i64 k' ∧ Left B w (some ⟨p, q, none⟩) n k' gs ∧ gs.flatL ∧ l ++ pDefault gs = pDefault fs ∧ l.length = k' ∧
            (FinL (w.heap.size + 2) (w9.setCell ⟨w.heap.size + 1, 3, none⟩ (.slice (some ⟨g, 0, none⟩) (k + 1) cap)) v l ∧ (gs ≠ .nil → Flats l ∧ (w9.setCell ⟨w.heap.size + 1, 3, none⟩ (.slice (some ⟨g, 0, none⟩) (k + 1) cap)).ownsRow (w.heap.size + 2) 35 5 v k' (l.flatMap flatC))) ∧
            Blk (w9.setCell ⟨w.heap.size + 1, 3, none⟩ (.slice (some ⟨g, 0, none⟩) (k + 1) cap)) (w.heap.size + 1) [.int .i64 0, .slice none 0 0, .bool false, v, .slice none 0 0] 35 ∧
            Blk (w9.setCell ⟨w.heap.size + 1, 3, none⟩ (.slice (some ⟨g, 0, none⟩) (k + 1) cap)) w.heap.size zeroT 35 ∧ Below base w (w9.setCell ⟨w.heap.size + 1, 3, none⟩ (.slice (some ⟨g, 0, none⟩) (k + 1) cap)) ∧ w.heap.size + 2 ≤ (w9.setCell ⟨w.heap.size + 1, 3, none⟩ (.slice (some ⟨g, 0, none⟩) (k + 1) cap)).heap.size := by
          refine ⟨k + 1, .nil, l ++ [.mk df [] (decide (0 ≤ nu)) (pDefault sub) []], _, rfl, hLn, trivial, by rw [← hl2]; simp [pDefault], by simp [hlk], ⟨.part l df (decide (0 ≤ nu)) (pDefault sub) (.slice la m lc) rfl hfl hdf hflv ?_ ?_, fun h => absurd rfl h⟩, hb39.set 3 _, hb29.set_other (by omega) 3 _, (hbk.trans (hbw9.mono (by omega))).setCell (by show base ≤ w.heap.size + 1; omega) _, ?_⟩
          · rw [List.length_append, hlk]
            exact hFO
          · rw [hm]
            exact hFL
          · have := hbw9.size
            simp
            omega
        have FIN := Lib.hid hfin
        clear hfin hLn hdf hl2 hlk hfl hown hb2 hbk hi hz hs hby c5 hOlv hflv hb7 hw7 s38 e2 hm hb28 hown8 hOlv8 hdiff e8 hbw8 hown9 hg9 hOlv9 hbw9 hb39 hb29 hFO hFL
        go_wp2
        go_roundw
        case rel => exact FIN.out
        case measure => simp [intOf]; omega
end Go.Proofs.Ytkhpglongkhbjaa
