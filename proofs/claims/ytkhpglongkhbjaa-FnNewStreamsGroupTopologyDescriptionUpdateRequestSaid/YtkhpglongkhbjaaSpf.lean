/- What the reference writes of a list: its count, its things. -/
import Derived.Test.YtkhpglongkhbjaaSpe
import Derived.Deep.RegionHeld3
namespace Go.Proofs.Ytkhpglongkhbjaa
open Go Go.RowKit

theorem step_append_from {P : Program} {w : World} {ops : Array Oper} {o : Oper} {a : Act} {K : Act → World → Prop} {Q : Exit → Act → World → Prop} {E : Prop} {t tx : TypeId} (T : BytesT P t 5) (hgd : o.guard = none) (s x : Operand)
    (ho : o.op = .call { callee := .builtin .append, args := #[s, x], argTypes := #[t, tx] }) (base : Nat) (bs : List UInt8) (hown : Own base w (a.eval s) bs) (hb : base ≤ w.heap.size)
    (bs' : List UInt8) (hsrc : Src P 1 tx (a.eval x) bs'.length (bs'.map byteV) w) (hl : bs.length + bs'.length ≤ lim)
    (h : ∀ v' w', Own base w' v' (bs ++ bs') → Below base w w' → K (a.put o.dst v') w') : if Region.wanted o (yielded ops a.tmps) = true then Oper.wp P o a w K Q else E := by
  have hw : Region.wanted o (yielded ops a.tmps) = true := by simp [Region.wanted, hgd]
  rw [if_pos hw]
  obtain ⟨i, hi, hz, hs, hby⟩ := T.info
  refine wp_append_src s x t tx ho base 5 i (.int .u8 0) 1 1 T.under hi hz hs hby rfl (a.eval s) bs.length (bs.map byteV) rfl hown _ bs'.length (bs'.map byteV) rfl hsrc (lim_max hl) (lim_room hl) hb ?_
  intro v' w' hown' hg _
  refine h v' w' ?_ ?_
  · unfold Own
    simpa using hown'
  · exact (Below.refl _ _).grown hg hb (fun k hk => by
      have := hown.lt k hk
      omega)
theorem Own.stay {base n : Nat} {w w' : World} {v : Value} {bs : List UInt8} (h : Own base w v bs) (hb : Below n w w') (hn : w.heap.size ≤ n) : Own base w' v bs := by
  refine ⟨h.1, ?_⟩
  rcases h.2 with hz | ⟨g, cap, cur, hv, hbg, hg, rest⟩
  · exact .inl hz
  · have hlt : g < w.heap.size := (Array.getElem?_eq_some_iff.1 hg).1
    exact .inr ⟨g, cap, cur, hv, hbg, (hb.block g (by omega)).trans hg, rest⟩
theorem Own.rl {base : Nat} {w : World} {v : Value} {bs : List UInt8} (h : Own base w v bs) : RL w.heap.size w v bs := (h.rb [] (by simp)).rl
theorem keep7 {n p q b : Nat} {w w' : World} {v0 v1 v2 v3 v4 x6 x7 : Value} (hb : Below n w w') (hp : p < n) (hbb : b < n)
    (h : w.cell? ⟨p, q, none⟩ = some v0 ∧ w.cell? ⟨p, q + 1, none⟩ = some v1 ∧ w.cell? ⟨p, q + 2, none⟩ = some v2 ∧ w.cell? ⟨p, q + 3, none⟩ = some v3 ∧ w.cell? ⟨p, q + 4, none⟩ = some v4 ∧ w.cell? ⟨b, 6, none⟩ = some x6 ∧ w.cell? ⟨b, 7, none⟩ = some x7) :
    w'.cell? ⟨p, q, none⟩ = some v0 ∧ w'.cell? ⟨p, q + 1, none⟩ = some v1 ∧ w'.cell? ⟨p, q + 2, none⟩ = some v2 ∧ w'.cell? ⟨p, q + 3, none⟩ = some v3 ∧ w'.cell? ⟨p, q + 4, none⟩ = some v4 ∧ w'.cell? ⟨b, 6, none⟩ = some x6 ∧ w'.cell? ⟨b, 7, none⟩ = some x7 := by
  have hP : ∀ i, w'.cell? ⟨p, i, none⟩ = w.cell? ⟨p, i, none⟩ := fun i => hb.cell (p := ⟨p, i, none⟩) hp
  have hQ : ∀ i, w'.cell? ⟨b, i, none⟩ = w.cell? ⟨b, i, none⟩ := fun i => hb.cell (p := ⟨b, i, none⟩) hbb
  simp only [hP, hQ]
  exact h

/-- The first k things of a list, each as the kind is written. -/
def things (ok : Int) (sub : PFs) (ver : Int) (flex : Bool) (l : List Tree) (k : Nat) : List UInt8 := (l.take k).flatMap (pVal flex ok (pPart ver flex sub) false)
theorem things_zero (ok : Int) (sub : PFs) (ver : Int) (flex : Bool) (l : List Tree) : things ok sub ver flex l 0 = [] := by simp [things]
theorem things_succ (ok : Int) (sub : PFs) (ver : Int) (flex : Bool) (l : List Tree) (k : Nat) (h : k < l.length) : things ok sub ver flex l (k + 1) = things ok sub ver flex l k ++ pVal flex ok (pPart ver flex sub) false l[k] := by
  unfold things
  rw [List.take_add_one, List.getElem?_eq_getElem h, List.flatMap_append]
  simp only [Option.toList_some, List.flatMap_cons, List.flatMap_nil, List.append_nil]
theorem things_all (ok : Int) (sub : PFs) (ver : Int) (flex : Bool) (l : List Tree) : things ok sub ver flex l l.length = l.flatMap (pVal flex ok (pPart ver flex sub) false) := by simp [things]
theorem things_le (ok : Int) (sub : PFs) (ver : Int) (flex : Bool) (l : List Tree) (k : Nat) (h : k < l.length) :
    (things ok sub ver flex l k).length + (pVal flex ok (pPart ver flex sub) false l[k]).length ≤ (l.flatMap (pVal flex ok (pPart ver flex sub) false)).length := by
  rw [← List.length_append, ← things_succ _ _ _ _ _ _ h]
  unfold things
  conv => rhs; rw [← List.take_append_drop (k + 1) l]
  rw [List.flatMap_append, List.length_append]
  omega

set_option maxRecDepth 100000 in
set_option maxHeartbeats 1600000 in
theorem spFieldList_null (fr to nu tg df ok : Int) (sub : PFs) (ver : Int) (flex : Bool) (t : Tree) (hn : pNull nu ver t = true) : FieldC 11 fr to nu tg df ok sub ver flex t := by
  intro B base w fv c hB hb hf ht hl
  have e : pField ver flex 11 nu ok (pPart ver flex sub) t = counted flex true 0 4 := by simp [pField, hn, pThings]
  rw [e]
  clear e hl
  have NL := fun w' (hw : B ≤ w'.heap.size) (hr : RepT B w' c t) => spNullT 11 fr to nu tg df ok fv ver t c B w'.heap.size w' (Nat.le_refl _) hr
  rw [hn] at NL
  obtain ⟨sv, lv, uv, rfl, -, ⟨sa, sc, rfl, -⟩, ⟨la, lc, lf, rfl, -⟩, ⟨ua, uc, rfl, -⟩⟩ := ht.parts
  obtain ⟨fa, fcap, rfl, -⟩ := id hf
  have N := Lib.hid NL
  clear NL hn
  have hb1 := fun o => (Below.refl base w).alloc hb o
  have hb2 := fun o o' => (hb1 o).alloc (Nat.le_trans hb (by simp)) o'
  have H := Lib.hid (And.intro hf ht)
  clear hf ht
  have e1 : ∀ o o', ((w.alloc o).alloc o').heap.size = w.heap.size + 2 := by intro o o'; simp
  go_enter Try.func32, Try.ntmps32
  go_wp2_with fail
  refine (N.out _ (by rw [e1]; omega) (H.out.2.keep ((hb2 _ _).mono hB))).mono ?_
  rintro e w3 ⟨rfl, hb3⟩
  obtain ⟨x0, x1, x2, x3, x4, x5, x6, x7⟩ := boxF (((Blk.alloc_new w [.int .i64 11, .int .i64 fr, .int .i64 to, .int .i64 nu, .int .i64 tg, .int .i64 df, .int .i64 ok, .slice fa sub.len fcap] 43).alloc
    (.cells #[.int .i64 t.n, .slice sa t.s.length sc, .bool t.null, .slice la t.l.length lc, .slice ua t.u.length uc] 35)).below hb3 (by rw [e1]; omega))
  obtain ⟨y0, y1, y2, y3, y4⟩ := boxT ((Blk.alloc_new2 w (.cells #[.int .i64 11, .int .i64 fr, .int .i64 to, .int .i64 nu, .int .i64 tg, .int .i64 df, .int .i64 ok, .slice fa sub.len fcap] 43)
    [.int .i64 t.n, .slice sa t.s.length sc, .bool t.null, .slice la t.l.length lc, .slice ua t.u.length uc] 35).below hb3 (by rw [e1]; omega))
  have hb4 := (hb2 _ _).trans (hb3.mono (by rw [e1]; omega))
  have R4 := H.out.2.keep (hb4.mono hB)
  obtain ⟨s4, l4, u4, hcc, -, -, RL4, -⟩ := R4.parts
  cases hcc
  clear R4
  go_wp2_with fail
  refine (spThings t.l _ B _ RL4).mono ?_
  rintro e w4 ⟨v', rfl, -, rfl⟩
  clear RL4
  go_wp2_with fail
  refine (spCounted flex true 0 4 (by omega) (by simp) base _ (Nat.le_trans hb hb4.size)).mono ?_
  rintro e w4 ⟨v2, rfl, hown, hb5⟩
  have hown : Own base w4 v2 (counted flex true 0 4) := hown
  go_wp2_with fail
  refine wp_loop_rounds 1 ?_
  rw [rounds_succ]
  go_wp2
  go_ret
  exact .mk hown (hb4.trans hb5)

set_option maxRecDepth 100000 in
set_option maxHeartbeats 3200000 in
theorem spFieldList_some (fr to nu tg df ok : Int) (sub : PFs) (ver : Int) (flex : Bool) (t : Tree) (hn : pNull nu ver t = false) (hv : ∀ t', t' ∈ t.l → ValC ok sub false ver flex t') : FieldC 11 fr to nu tg df ok sub ver flex t := by
  intro B base w fv c hB hb hf ht hl
  have e : pField ver flex 11 nu ok (pPart ver flex sub) t = counted flex false (t.l.take 32767).length 4 ++ (t.l.take 32767).flatMap (pVal flex ok (pPart ver flex sub) false) := by simp [pField, hn, pThings]
  rw [e] at hl ⊢
  clear e
  have NL := fun w' (hw : B ≤ w'.heap.size) (hr : RepT B w' c t) => spNullT 11 fr to nu tg df ok fv ver t c B w'.heap.size w' (Nat.le_refl _) hr
  rw [hn] at NL
  obtain ⟨sv, lv, uv, rfl, -, ⟨sa, sc, rfl, -⟩, ⟨la, lc, lf, rfl, -⟩, ⟨ua, uc, rfl, -⟩⟩ := ht.parts
  obtain ⟨fa, fcap, rfl, -⟩ := id hf
  have N := Lib.hid NL
  have V := Lib.hid hv
  clear NL hn hv
  have hb1 := fun o => (Below.refl base w).alloc hb o
  have hb2 := fun o o' => (hb1 o).alloc (Nat.le_trans hb (by simp)) o'
  have H := Lib.hid (And.intro hf ht)
  clear hf ht
  have e1 : ∀ o o', ((w.alloc o).alloc o').heap.size = w.heap.size + 2 := by intro o o'; simp
  have hll : (t.l.take 32767).length ≤ 32767 := by rw [List.length_take]; omega
  have hmem : ∀ t', t' ∈ t.l.take 32767 → t' ∈ t.l := fun t' h => List.mem_of_mem_take h
  obtain ⟨L, hLd⟩ : ∃ L, t.l.take 32767 = L := ⟨_, rfl⟩
  rw [hLd] at hl hll hmem ⊢
  go_enter Try.func32, Try.ntmps32
  go_wp2_with fail
  refine (N.out _ (by rw [e1]; omega) (H.out.2.keep ((hb2 _ _).mono hB))).mono ?_
  rintro e w3 ⟨rfl, hb3⟩
  have X := ((Blk.alloc_new w [.int .i64 11, .int .i64 fr, .int .i64 to, .int .i64 nu, .int .i64 tg, .int .i64 df, .int .i64 ok, .slice fa sub.len fcap] 43).alloc
    (.cells #[.int .i64 t.n, .slice sa t.s.length sc, .bool t.null, .slice la t.l.length lc, .slice ua t.u.length uc] 35)).below hb3 (by rw [e1]; omega)
  obtain ⟨x0, x1, x2, x3, x4, x5, x6, x7⟩ := boxF X
  obtain ⟨y0, y1, y2, y3, y4⟩ := boxT ((Blk.alloc_new2 w (.cells #[.int .i64 11, .int .i64 fr, .int .i64 to, .int .i64 nu, .int .i64 tg, .int .i64 df, .int .i64 ok, .slice fa sub.len fcap] 43)
    [.int .i64 t.n, .slice sa t.s.length sc, .bool t.null, .slice la t.l.length lc, .slice ua t.u.length uc] 35).below hb3 (by rw [e1]; omega))
  have hs3 : w.heap.size + 2 ≤ w3.heap.size := by have := hb3.size; rw [e1] at this; exact this
  have hb4 := (hb2 _ _).trans (hb3.mono (by rw [e1]; omega))
  have R4 := H.out.2.keep (hb4.mono hB)
  have F4 := H.out.1.below (hb4.mono hB)
  obtain ⟨s4, l4, u4, hcc, -, -, RL4, -⟩ := R4.parts
  cases hcc
  clear R4
  have XH := Lib.hid (And.intro X F4)
  clear X F4 H
  go_wp2_with fail
  refine (spThings t.l _ B _ RL4).mono ?_
  rintro e w4 ⟨v', rfl, RL5, rfl⟩
  clear RL4
  obtain ⟨a5, cap5, f5, rfl, -⟩ := id RL5
  rw [hLd] at RL5
  rw [hLd]
  clear hLd
  have hb7 : Below (w.heap.size + 2) w3 w3 := Below.refl _ _
  go_wp2_with fail
  refine (spCounted flex false L.length 4 (by omega) (by simp) (w.heap.size + 2) _ hs3).mono ?_
  rintro e w4 ⟨v2, rfl, hown, hb5⟩
  have hown : Own (w.heap.size + 2) w4 v2 (counted flex false L.length 4) := hown
  have RL6 := Lib.hid RL5
  clear RL5 x0 x1 x2 x3 x4 x5 x6 x7 y0 y1 y2 y3 y4
  go_wp2_with fail
  go_loopw [11, 31] (fun v i wr => ∃ k : Nat, k ≤ L.length ∧ i = .int .i64 k ∧ Own (w.heap.size + 2) wr v (counted flex false L.length 4 ++ things ok sub ver flex L k) ∧ Below (w.heap.size + 2) w3 wr)
    (fun _ i _ => L.length - (intOf i).toNat)
  case atStart => exact ⟨0, Nat.zero_le _, rfl, by rw [things_zero, List.append_nil]; exact hown, hb5⟩
  case round =>
    obtain ⟨k, hk, rfl, hownk, hbk⟩ := hrel
    by_cases hkl : k < L.length
    · obtain ⟨p, q, sa', sc', la', lc', ua', uc', ha, hp, hr, c0, c1, c2, c3, c4⟩ := (RL6.out.keep (hbk.mono (by omega))).nth hkl
      subst ha
      obtain ⟨-, -, -, -, -, -, x6, x7⟩ := boxF (XH.out.1.below hbk (by omega))
      have R := Lib.hid (And.intro hr (XH.out.2.below (hbk.mono (by omega))))
      have hle := things_le ok sub ver flex L k hkl
      rw [List.length_append] at hl
      have hsz := hbk.size
      have D : Below (w.heap.size + 2) wr wr.drew := (Below.refl _ _).drew
      have c := keep7 (D) (by omega) (by omega) ⟨c0, c1, c2, c3, c4, x6, x7⟩
      have hpb : p < w.heap.size + 2 := by omega
      have hbb : w.heap.size < w.heap.size + 2 := by omega
      clear c0 c1 c2 c3 c4 x6 x7 hr
      have hownd := Lib.hid hownk.drew
      have hdsz : wr.drew.heap.size = wr.heap.size := rfl
      have hw2 : w.heap.size + 2 ≤ wr.drew.heap.size := by omega
      go_wp2_with fail
      go_region_held3 (fun w' => w'.cell? ⟨p, q + k * 5, none⟩ = some (.int .i64 (L[k]).n) ∧ w'.cell? ⟨p, q + k * 5 + 1, none⟩ = some (.slice sa' (L[k]).s.length sc') ∧ w'.cell? ⟨p, q + k * 5 + 2, none⟩ = some (.bool (L[k]).null) ∧
        w'.cell? ⟨p, q + k * 5 + 3, none⟩ = some (.slice la' (L[k]).l.length lc') ∧ w'.cell? ⟨p, q + k * 5 + 4, none⟩ = some (.slice ua' (L[k]).u.length uc') ∧ w'.cell? ⟨w.heap.size, 6, none⟩ = some (.int .i64 ok) ∧ w'.cell? ⟨w.heap.size, 7, none⟩ = some (.slice fa sub.len fcap))
        (first | exact c | exact keep7 (by assumption) hpb hbb (by assumption) | exact keep7 (Below.mono (by assumption) hw2) hpb hbb (by assumption))
        (first
          | (go_at_call 48; refine (V.out _ (hmem _ (List.getElem_mem hkl)) B wr.drew.heap.size wr.drew _ _ (by omega) (Nat.le_refl _) (R.out.2.below (D.mono (by omega))) (R.out.1.keep (D.mono (by omega))) (by omega)).mono ?_; rintro e w6 ⟨v6, rfl, hown6, hb6⟩)
          | (refine step_append_from bt rfl (.tmp 34) (.tmp 45) rfl (w.heap.size + 2) _ (hownd.out.stay hb6 (Nat.le_refl _)) (by have := hb6.size; omega) _ (Src.ofRL (B := w6.heap.size) Try.underlying28 (hown6.rl)) (by simp only [List.length_append]; omega) ?_; intro v7 w7 hown7 hb7))
      have hfin : Own (w.heap.size + 2) w7 v7 (counted flex false L.length 4 ++ things ok sub ver flex L (k + 1)) := by
        rw [things_succ _ _ _ _ _ _ hkl, ← List.append_assoc]
        exact hown7
      have hbfin : Below (w.heap.size + 2) w3 w7 := (hbk.trans D).trans ((hb6.mono hw2).trans hb7)
      go_wp2
      go_roundw
      case rel => exact ⟨k + 1, by omega, by go_num, hfin, hbfin⟩
      case measure => simp [intOf]; omega
    · have : k = L.length := by omega
      subst this
      rw [things_all] at hownk
      go_wp2
      go_ret
      exact .mk (hownk.mono (by omega)) (hb4.trans (hbk.mono (by omega)))
end Go.Proofs.Ytkhpglongkhbjaa
