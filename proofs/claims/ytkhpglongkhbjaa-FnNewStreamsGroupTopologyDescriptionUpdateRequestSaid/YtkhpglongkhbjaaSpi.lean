/- The reference's Write, Same; the law's version. -/
import Derived.Test.YtkhpglongkhbjaaSph
namespace Go.Proofs.Ytkhpglongkhbjaa
open Go Go.RowKit
set_option linter.unusedVariables false

mutual
theorem partAll : ∀ fs : PFs, fs.noTag → fs.noOpt → PartAll fs
  | .nil, h, h' => partOf .nil h h' trivial
  | .cons k fr to nu tg df ok sub rest, h, h' => partOf (.cons k fr to nu tg df ok sub rest) h h' ⟨partAll sub h.2.1 h'.2.1, subsAll rest h.2.2 h'.2.2⟩
theorem subsAll : ∀ fs : PFs, fs.noTag → fs.noOpt → SubsAll fs
  | .nil, _, _ => trivial
  | .cons _ _ _ _ _ _ _ sub rest, h, h' => ⟨partAll sub h.2.1 h'.2.1, subsAll rest h.2.2 h'.2.2⟩
end

set_option maxRecDepth 100000 in
set_option maxHeartbeats 1600000 in
theorem spWrite (fs : PFs) (htag : fs.noTag) (hopt : fs.noOpt) (ver fl : Int) (t : Tree) (flex : Bool) (hfl : flex = (decide (0 ≤ fl) && decide (fl ≤ ver))) (B base : Nat) (w : World) (fv : Value) (c : List Value) (hB : B ≤ base) (hb : base ≤ w.heap.size)
    (hf : RepF B w fs fv) (ht : RepT B w c t) (hl : (pPart ver flex fs t).length ≤ lim) :
    Gives Try.prog 9 #[.agg #[fv, .int .i64 fl], .int .i64 ver, .agg c.toArray] w base (pPart ver flex fs t) := by
  obtain ⟨sv, lv, uv, rfl, -, ⟨sa, sc, rfl, -⟩, ⟨la, lc, lf, rfl, -⟩, ⟨ua, uc, rfl, -⟩⟩ := ht.parts
  obtain ⟨fa, fcap, rfl, -⟩ := id hf
  have hb1 := fun o => (Below.refl base w).alloc hb o
  have hb2 := fun o o' => (hb1 o).alloc (Nat.le_trans hb (by simp)) o'
  have P := Lib.hid (fun w' (h : Below base w w') => partAll fs htag hopt ver flex t B base w' (.slice fa fs.len fcap) _ hB (Nat.le_trans hb h.size) (hf.below (h.mono hB)) (ht.keep (h.mono hB)) hl)
  clear hf ht hl
  by_cases h0 : 0 ≤ fl <;> by_cases h1 : fl ≤ ver <;> simp [h0, h1] at hfl <;> subst hfl <;>
  · go_enter Try.func9, Try.ntmps9
    go_wp2_with fail
    refine (P.out _ (hb2 _ _)).mono ?_
    rintro e w' ⟨v', rfl, hown, hbel⟩
    go_wp2
    go_ret
    exact .mk hown ((hb2 _ _).trans hbel)

set_option maxRecDepth 100000 in
set_option maxHeartbeats 1600000 in
theorem spSame (bs : List UInt8) (x y : Value) (B base : Nat) (w : World) (hb : base ≤ w.heap.size) (hx : RL B w x bs) (hy : RL B w y bs) (hBw : B ≤ base) : Says Try.prog 6 #[x, y] w base (.bool true) := by
  obtain ⟨a, cap, rfl, h1, h2, h3⟩ := hx
  obtain ⟨a', cap', rfl, h1', h2', h3'⟩ := hy
  by_cases hne : bs = []
  · subst hne
    clear h3 h3'
    go_enter Try.func6, Try.ntmps6
    go_wp2_with fail
    refine wp_loop_rounds 1 ?_
    rw [rounds_succ]
    go_wp2
    go_ret
    exact ⟨rfl, Below.refl _ _⟩
  obtain ⟨p, q, rfl, hp, hc⟩ := h3 hne
  obtain ⟨p', q', rfl, hp', hc'⟩ := h3' hne
  have H := Lib.hid (And.intro hc hc')
  clear hc hc' h3 h3' hne
  obtain ⟨n, hn⟩ : ∃ n, bs.length = n := ⟨_, rfl⟩
  rw [hn] at h1 h1' ⊢
  go_enter Try.func6, Try.ntmps6
  go_wp2_with fail
  go_loopw [13] (fun i wr => ∃ k : Nat, k ≤ n ∧ i = .int .i64 k ∧ Below base w wr) (fun i _ => n - (intOf i).toNat)
  case atStart => exact ⟨0, Nat.zero_le _, rfl, Below.refl _ _⟩
  case round =>
    obtain ⟨k, hk, rfl, hbk⟩ := hrel
    by_cases hkn : k < n
    · obtain ⟨u, hu⟩ : ∃ u, bs[k]? = some u := ⟨bs[k], List.getElem?_eq_getElem (by omega)⟩
      have c1 := (hbk.cell (p := ⟨p, q + k, none⟩) (by show p < base; omega)).trans (H.out.1 k u hu)
      have c2 := (hbk.cell (p := ⟨p', q' + k, none⟩) (by show p' < base; omega)).trans (H.out.2 k u hu)
      have FIN := Lib.hid hbk.drew
      clear hbk hu
      unfold byteV at c1 c2
      generalize (u.toNat : Int) = z at *
      go_wp2_with fail
      go_region_held3 (fun w' => w'.cell? ⟨p, q + k, none⟩ = some (.int .u8 z) ∧ w'.cell? ⟨p', q' + k, none⟩ = some (.int .u8 z)) (first | exact ⟨c1, c2⟩) (first | fail)
      go_wp2
      go_roundw
      case rel => exact ⟨k + 1, by omega, by go_num, FIN.out⟩
      case measure => simp [intOf]; omega
    · have : k = n := by omega
      subst this
      go_wp2
      go_ret
      exact ⟨rfl, hbk⟩

set_option maxHeartbeats 400000 in
theorem lawVersion (n most : Int) (h0 : 0 ≤ n) (h1 : n ≤ 255) (h2 : 0 ≤ most) (h3 : most ≤ 255) (w : World) : Calls Try.prog 8 #[.int .u8 n, .int .i64 most] w fun e w' => e = .returned (.int .i64 (n % (most + 1))) ∧ w = w' := by
  go_enter Try.func8, Try.ntmps8
  go_wp2
  go_ret
  exact ⟨rfl, rfl⟩
end Go.Proofs.Ytkhpglongkhbjaa
