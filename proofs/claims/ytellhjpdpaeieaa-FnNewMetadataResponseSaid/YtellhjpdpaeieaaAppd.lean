/- A text that may be null from a version on: what is written of it. -/
import Derived.Test.YtellhjpdpaeieaaLeaf
namespace Go.Proofs.Ytellhjpdpaeieaa
open Go Go.RowKit
set_option linter.unusedVariables false

section
variable {P : Program} {N nt : Nat} {K : Slots} {lo t : Nat}

/-- The code c appends what is written of a text that lies in slot u. -/
def AppStr (P : Program) (N nt : Nat) (flex : Bool) (K : Slots) (lo t u : Nat) (c : Code) : Prop :=
  ∀ (w0 : World) (l : List UInt8), l.length ≤ strMax flex → App P N nt w0 ((u, .string ⟨l.toArray⟩) :: K) lo t c (lenS flex l.length ++ l)
theorem appStr1 {flex : Bool} {u t1 F r ty1 ty2 ty3 ty4 : Nat} {p1 p2 p3 p4 : String} {e1 e2 e3 e4 : Array Edge} {at_ : Array TypeId}
    (he : Enters P F) (hC : ∀ (w0 : World) (l : List UInt8), l.length ≤ strMax flex → AppAt P F (.string ⟨l.toArray⟩) (lenS flex l.length ++ l) w0) (hD : Dims N nt lo t) (hd : t ≤ t1 ∧ t1 + 2 < nt ∧ u ≠ t1) :
    AppStr P N nt flex K lo t u (Code.region r #[⟨some t1, .move (.tmp 1), ty1, p1, e1, none⟩, ⟨some (t1 + 1), .move (.tmp u), ty2, p2, e2, none⟩,
      ⟨some (t1 + 2), .call { callee := .value (.func F), args := #[.tmp t1, .tmp (t1 + 1)], argTypes := at_ }, ty3, p3, e3, none⟩, ⟨some 1, .assign (.tmp (t1 + 2)), ty4, p4, e4, none⟩] false) :=
  fun w0 l hl => app1 he (hC w0 l hl) hD hd
theorem appStr2 {flex : Bool} {sf t1 r ty1 u : Nat} {p1 : String} {e1 : Array Edge} {c1 c2 : Code} (hk : KOK N lo t K) (hu : u ≠ 1 ∧ u < lo) (hf : (sf, Value.bool flex) ∈ K) (hD : Dims N nt lo t) (hd : t ≤ t1 ∧ t1 < nt)
    (h1 : flex = true → AppStr P N nt flex K lo t u c1) (h2 : flex = false → AppStr P N nt flex K lo t u c2) :
    AppStr P N nt flex K lo t u ((Code.region r #[⟨some t1, .move (.tmp sf), ty1, p1, e1, none⟩] false).seq (.cond (.tmp t1) c1 c2)) :=
  fun w0 l hl => app_flag (hk.cons ⟨hu.1, .inl hu.2⟩) (List.mem_cons_of_mem _ hf) hD hd (fun h => h1 h w0 l hl) (fun h => h2 h w0 l hl)

theorem appL_from {ver : Int} {flex : Bool} {sv u v1 v2 t1 T T2 U U2 Us r1 r2 r3 r4 r5 y1 y2 y3 y4 y5 y6 y7 y8 y9 y10 y11 lo' t' : Nat} {p1 p2 p3 p4 p5 p6 p7 p8 p9 p10 p11 : String} {e1 e2 e3 e4 e5 e6 e7 e8 e9 e10 e11 : Array Edge} {n : Int} {c1 c2 : Code}
    (hk : KOK N lo t K) (hsv : (sv, Value.int .i16 ver) ∈ K) (hu : u ≠ 1 ∧ u < lo) (hU : OneCell P Us) (hT2 : P.underlying T2 = some (.pointer (P.pointee T2))) (hD : Dims N nt lo t) (hd : t ≤ t1 ∧ t1 + 7 < nt ∧ lo ≤ v1 ∧ v1 < N ∧ lo ≤ v2 ∧ v2 < N ∧ v1 ≠ v2 ∧ v2 < lo' ∧ lo ≤ lo' ∧ t ≤ t')
    (h1 : AppStr P N nt flex K lo' t' v2 c1) (h2 : ¬ ver < n → AppL P N nt ver flex K lo t u c2 (.nstrFrom n)) :
    AppL P N nt ver flex K lo t u ((Code.region r1 #[⟨some t1, .move (.tmp sv), y1, p1, e1, none⟩, ⟨some (t1 + 1), .binOp .lss T (.tmp t1) (.const (.int .i16 n)) U, y2, p2, e2, none⟩] false).seq (.cond (.tmp (t1 + 1))
      ((Code.region r2 #[⟨some v1, .assign (.const (.string ⟨#[]⟩)), y3, p3, e3, none⟩] false).seq
        (((Code.region r3 #[⟨some (t1 + 2), .move (.tmp u), y4, p4, e4, none⟩, ⟨some (t1 + 3), .binOp .neq T2 (.tmp (t1 + 2)) (.const (.pointer none)) U2, y5, p5, e5, none⟩] false).seq
          (.cond (.tmp (t1 + 3)) (Code.region r4 #[⟨some (t1 + 4), .move (.tmp u), y6, p6, e6, none⟩, ⟨some (t1 + 5), .nilCheck (.tmp (t1 + 4)), y7, p7, e7, none⟩, ⟨some (t1 + 6), .load Us (.tmp (t1 + 5)), y8, p8, e8, none⟩, ⟨some v1, .assign (.tmp (t1 + 6)), y9, p9, e9, none⟩] false) .skip)).seq
          ((Code.region r5 #[⟨some (t1 + 7), .move (.tmp v1), y10, p10, e10, none⟩, ⟨some v2, .assign (.tmp (t1 + 7)), y11, p11, e11, none⟩] false).seq c1)))
      c2)) (.nstrFrom n) := by
  obtain ⟨d1, d2, d3, d4, d5, d6, d7, d8, d9, d10⟩ := hd
  have q1 := hD.dOne
  have q2 := hD.dLo
  have q3 := hD.dT
  have q4 := hD.dN
  intro w0 b o x v hr hc a w bs Q hst hh hl hq
  have hK1 : KOK N lo t ((u, x) :: K) := hk.cons ⟨hu.1, .inl hu.2⟩
  refine wp_seq (reg_cmp (x0 := nt) (lo := lo) (b := decide (ver < n)) hst.size (hh.tail _ hsv) ⟨q3, d1, by omega, q2⟩ (fun w => by rw [run_cmp_i16]) fun a1 hf1 hx1 => ?_)
  have hst1 := hst.fr hf1 hD
  have hh1 := hh.fr hK1 (hf1.to1 hD)
  by_cases hv : ver < n
  · rw [decide_eq_true hv] at hx1
    refine wp_cond_true hx1 ?_
    -- what the text says
    have hX : ∃ l : List UInt8, l.length ≤ strMax flex ∧ apLeaf ver flex (.nstrFrom n) v = lenS flex l.length ++ l ∧ ((x = .pointer none ∧ l = []) ∨ ∃ p q, x = .pointer (some ⟨p, q, none⟩) ∧ w0.cell? ⟨p, q, none⟩ = some (.string ⟨l.toArray⟩)) := by
      cases v <;> simp only [RepLeaf] at hr <;> try exact hr.elim
      · rename_i l
        obtain ⟨⟨p, q, hp, -, hs⟩, hlen⟩ := hr
        rw [hc] at hp
        cases hp
        exact ⟨l, hlen, by simp [apLeaf], .inr ⟨p, q, rfl, hs⟩⟩
      · rw [hc] at hr
        cases hr
        exact ⟨[], Nat.zero_le _, by simp [apLeaf, hv], .inl ⟨rfl, rfl⟩⟩
    obtain ⟨l, hlen, hap, hx⟩ := hX
    rw [hap] at hl hq
    -- the variable begins as the empty text
    refine wp_seq (wp_reg (wl_assign_c (wpList_nil ?_)))
    have hf2 := hf1.put v1 (.string ⟨#[]⟩) (.inr ⟨d3, .inl d4⟩)
    have hv2 : aget (a1.put (some v1) (.string ⟨#[]⟩)) v1 = .string ⟨#[]⟩ := aget_put_same _ _ _ (by rw [hst1.size]; omega)
    have hu2 : aget (a1.put (some v1) (.string ⟨#[]⟩)) u = x := (aget_put_other _ _ _ _ (by omega)).trans hh1.head
    generalize a1.put (some v1) (.string ⟨#[]⟩) = a2 at hf2 hv2 hu2
    have hs2 : a2.tmps.size = nt := hf2.size.trans hst.size
    -- the end: from a frame in which v1 holds the text
    have fin : ∀ a3, Fr N lo t nt a a3 → aget a3 v1 = .string ⟨l.toArray⟩ → ((Code.region r5 #[⟨some (t1 + 7), .move (.tmp v1), y10, p10, e10, none⟩, ⟨some v2, .assign (.tmp (t1 + 7)), y11, p11, e11, none⟩] false).seq c1).wp P Q a3 w := by
      intro a3 hf3 hv3
      have hs3 : a3.tmps.size = nt := hf3.size.trans hst.size
      refine wp_seq (reg_copy (x0 := nt) (lo := lo) (N := N) (t := t) hs3 hv3 ⟨q3, by omega, by omega, d5, d6⟩ fun a4 hf4 hx4 => ?_)
      have hf34 := hf3.trans hf4
      refine h1 w0 l hlen a4 w bs Q (hst.fr hf34 hD) (((hh.tail).fr hk (hf34.to1 hD)).cons hx4) hl fun a5 w5 hs5 hf5 => hq a5 w5 hs5 ((hf34.to1 hD).trans (hf5.mono d9 d10))
    refine wp_seq (wp_seq (wp_reg ?_))
    refine wl_move hu2 ?_
    rcases hx with ⟨rfl, rfl⟩ | ⟨p, q, rfl, hcell⟩
    · refine wl_bin (r := .bool false) (aget_put_same _ _ _ (by rw [hs2]; omega)) rfl (by rw [run_neq_pointer_nil _ _ _ hT2]; try rfl) ?_
      have hf3 := (hf2.put (t1 + 2) (.pointer none) (.inr ⟨by omega, .inr (by omega)⟩)).put (t1 + 3) (.bool false) (.inr ⟨by omega, .inr (by omega)⟩)
      refine wpList_nil (wp_cond_false (aget_put_same _ _ _ (by simp only [size_put, hs2]; omega)) (wp_skip (fin _ hf3 ?_)))
      rw [aget_put_other _ _ _ _ (by omega), aget_put_other _ _ _ _ (by omega)]
      exact hv2
    · refine wl_bin (r := .bool true) (aget_put_same _ _ _ (by rw [hs2]; omega)) rfl (by rw [run_neq_pointer_nil _ _ _ hT2]; try rfl) ?_
      have hf3 := (hf2.put (t1 + 2) (.pointer (some ⟨p, q, none⟩)) (.inr ⟨by omega, .inr (by omega)⟩)).put (t1 + 3) (.bool true) (.inr ⟨by omega, .inr (by omega)⟩)
      have hu3 : aget ((a2.put (some (t1 + 2)) (.pointer (some ⟨p, q, none⟩))).put (some (t1 + 3)) (.bool true)) u = .pointer (some ⟨p, q, none⟩) := by
        rw [aget_put_other _ _ _ _ (by omega), aget_put_other _ _ _ _ (by omega)]
        exact hu2
      have hb3 : aget ((a2.put (some (t1 + 2)) (.pointer (some ⟨p, q, none⟩))).put (some (t1 + 3)) (.bool true)) (t1 + 3) = .bool true := aget_put_same _ _ _ (by simp only [size_put, hs2]; omega)
      generalize (a2.put (some (t1 + 2)) (.pointer (some ⟨p, q, none⟩))).put (some (t1 + 3)) (.bool true) = a3 at hf3 hu3 hb3
      have hs3 : a3.tmps.size = nt := hf3.size.trans hst.size
      refine wpList_nil (wp_cond_true hb3 (wp_reg ?_))
      refine wl_move hu3 ?_
      refine wl_nilCheck (aget_put_same _ _ _ (by rw [hs3]; omega)) ?_
      refine wl_load hU (aget_put_same _ _ _ (by simp only [size_put, hs3]; omega)) (hst.cell hcell) ?_
      refine wl_assign (aget_put_same _ _ _ (by simp only [size_put, hs3]; omega)) ?_
      refine wpList_nil (fin _ ((((hf3.put _ _ (.inr ⟨by omega, .inr (by omega)⟩)).put _ _ (.inr ⟨by omega, .inr (by omega)⟩)).put _ _ (.inr ⟨by omega, .inr (by omega)⟩)).put _ _ (.inr ⟨d3, .inl d4⟩)) (aget_put_same _ _ _ (by simp only [size_put, hs3]; omega)))
  · rw [decide_eq_false hv] at hx1
    refine wp_cond_false hx1 ?_
    exact h2 hv w0 b o x v hr hc a1 w bs Q hst1 hh1 hl fun a2 w2 hs2 hf2 => hq a2 w2 hs2 ((hf1.to1 hD).trans hf2)
end
theorem strC_false (w0 : World) (l : List UInt8) (h2 : l.length ≤ strMax false) : AppAt Try.prog 33 (.string ⟨l.toArray⟩) (lenS false l.length ++ l) w0 := by
  have h := (appendString ⟨l.toArray⟩ (by rw [str_size]; simp [strMax] at h2; omega)).at (w0 := w0)
  simpa [lenS, str_size] using h
theorem strC_true (w0 : World) (l : List UInt8) (h2 : l.length ≤ strMax true) : AppAt Try.prog 32 (.string ⟨l.toArray⟩) (lenS true l.length ++ l) w0 := by
  have h := (appendCompactString ⟨l.toArray⟩ (by rw [str_size]; simp [strMax] at h2; omega)).at (w0 := w0)
  simpa [lenS, str_size] using h
end Go.Proofs.Ytellhjpdpaeieaa
