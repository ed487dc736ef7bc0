/- Whole regions of the generated code, over a frame that is a variable. Any program. -/
import Derived.Test.YtkhpglongkhbjaaStep
namespace Go.Proofs.Ytkhpglongkhbjaa
open Go Go.RowKit

section
variable {P : Program} {w : World} {a : Act} {Q : Exit → Act → World → Prop}

theorem wp_reg {r : Nat} {l : List Oper} (h : wpList P l.toArray Q l a w) : (Code.region r l.toArray false).wp P Q a w := wp_region_lit h

/-- 'v := s.F', a field of one cell. -/
theorem reg_load {N nt lo t s v t1 T k U off r x0 ty1 ty2 ty3 ty4 ty5 : Nat} {p1 p2 p3 p4 p5 : String} {e1 e2 e3 e4 e5 : Array Edge} {ad : Addr} {x : Value}
    (hT : FieldAt P T k off) (hU : OneCell P U) (hN : a.tmps.size = nt) (hs : aget a s = .pointer (some ad)) (hc : w.cell? (ad.add off) = some x) (hd : N ≤ t ∧ t ≤ t1 ∧ t1 + 3 < nt ∧ lo ≤ v ∧ v < N)
    (h : ∀ a', Fr N lo t x0 a a' → aget a' v = x → Q .normal a' w) :
    (Code.region r #[⟨some t1, .move (.tmp s), ty1, p1, e1, none⟩, ⟨some (t1 + 1), .nilCheck (.tmp t1), ty2, p2, e2, none⟩, ⟨some (t1 + 2), .fieldAddr T (.tmp (t1 + 1)) k, ty3, p3, e3, none⟩,
      ⟨some (t1 + 3), .load U (.tmp (t1 + 2)), ty4, p4, e4, none⟩, ⟨some v, .assign (.tmp (t1 + 3)), ty5, p5, e5, none⟩] false).wp P Q a w := by
  obtain ⟨h1, h2, h3, h4, h5⟩ := hd
  refine wp_reg ?_
  refine wl_move hs ?_
  refine wl_nilCheck (aget_put_same _ _ _ (by (first | rw [hN] | simp only [size_put, hN]); omega)) ?_
  refine wl_fieldAddr hT (aget_put_same _ _ _ (by (first | rw [hN] | simp only [size_put, hN]); omega)) ?_
  refine wl_load hU (aget_put_same _ _ _ (by (first | rw [hN] | simp only [size_put, hN]); omega)) hc ?_
  refine wl_assign (aget_put_same _ _ _ (by (first | rw [hN] | simp only [size_put, hN]); omega)) ?_
  refine wpList_nil (h _ (((((Fr.refl N lo t x0 a).put _ _ (by omega)).put _ _ (by omega)).put _ _ (by omega)).put _ _ (by omega) |>.put _ _ (by omega)) (aget_put_same _ _ _ (by (first | rw [hN] | simp only [size_put, hN]); omega)))

/-- 'v := &s.F'. -/
theorem reg_addr {N nt lo t s v t1 T k off r x0 ty1 ty2 ty3 ty4 : Nat} {p1 p2 p3 p4 : String} {e1 e2 e3 e4 : Array Edge} {ad : Addr}
    (hT : FieldAt P T k off) (hN : a.tmps.size = nt) (hs : aget a s = .pointer (some ad)) (hd : N ≤ t ∧ t ≤ t1 ∧ t1 + 2 < nt ∧ lo ≤ v ∧ v < N)
    (h : ∀ a', Fr N lo t x0 a a' → aget a' v = .pointer (some (ad.add off)) → Q .normal a' w) :
    (Code.region r #[⟨some t1, .move (.tmp s), ty1, p1, e1, none⟩, ⟨some (t1 + 1), .nilCheck (.tmp t1), ty2, p2, e2, none⟩, ⟨some (t1 + 2), .fieldAddr T (.tmp (t1 + 1)) k, ty3, p3, e3, none⟩,
      ⟨some v, .assign (.tmp (t1 + 2)), ty4, p4, e4, none⟩] false).wp P Q a w := by
  obtain ⟨h1, h2, h3, h4, h5⟩ := hd
  refine wp_reg ?_
  refine wl_move hs ?_
  refine wl_nilCheck (aget_put_same _ _ _ (by (first | rw [hN] | simp only [size_put, hN]); omega)) ?_
  refine wl_fieldAddr hT (aget_put_same _ _ _ (by (first | rw [hN] | simp only [size_put, hN]); omega)) ?_
  refine wl_assign (aget_put_same _ _ _ (by (first | rw [hN] | simp only [size_put, hN]); omega)) ?_
  refine wpList_nil (h _ ((((Fr.refl N lo t x0 a).put _ _ (by omega)).put _ _ (by omega)).put _ _ (by omega) |>.put _ _ (by omega)) (aget_put_same _ _ _ (by (first | rw [hN] | simp only [size_put, hN]); omega)))

/-- 'v := u'. -/
theorem reg_copy {N nt lo t u v t1 r x0 ty1 ty2 : Nat} {p1 p2 : String} {e1 e2 : Array Edge} {x : Value}
    (hN : a.tmps.size = nt) (hs : aget a u = x) (hd : N ≤ t ∧ t ≤ t1 ∧ t1 < nt ∧ lo ≤ v ∧ v < N)
    (h : ∀ a', Fr N lo t x0 a a' → aget a' v = x → Q .normal a' w) :
    (Code.region r #[⟨some t1, .move (.tmp u), ty1, p1, e1, none⟩, ⟨some v, .assign (.tmp t1), ty2, p2, e2, none⟩] false).wp P Q a w := by
  obtain ⟨h1, h2, h3, h4, h5⟩ := hd
  refine wp_reg ?_
  refine wl_move hs ?_
  refine wl_assign (aget_put_same _ _ _ (by (first | rw [hN] | simp only [size_put, hN]); omega)) ?_
  refine wpList_nil (h _ (((Fr.refl N lo t x0 a).put _ _ (by omega)).put _ _ (by omega)) (aget_put_same _ _ _ (by (first | rw [hN] | simp only [size_put, hN]); omega)))

/-- A flag, fetched for a test. -/
theorem reg_flag {N nt lo t u t1 r x0 ty1 : Nat} {p1 : String} {e1 : Array Edge} {x : Value} (hN : a.tmps.size = nt) (hs : aget a u = x) (hd : N ≤ t ∧ t ≤ t1 ∧ t1 < nt ∧ lo ≤ N)
    (h : ∀ a', Fr N lo t x0 a a' → aget a' t1 = x → Q .normal a' w) : (Code.region r #[⟨some t1, .move (.tmp u), ty1, p1, e1, none⟩] false).wp P Q a w := by
  obtain ⟨h1, h2, h3, h4⟩ := hd
  refine wp_reg ?_
  refine wl_move hs ?_
  exact wpList_nil (h _ ((Fr.refl N lo t x0 a).put _ _ (by omega)) (aget_put_same _ _ _ (by (first | rw [hN] | simp only [size_put, hN]); omega)))

theorem run_cmp_i16 (op : BinOp) (T : Nat) (x y : Int) : ∀ w : World, (binOp op T (.int .i16 x) (.int .i16 y)).run P w = (match op with | .geq => .ok (.bool (decide (y ≤ x))) w | .leq => .ok (.bool (decide (x ≤ y))) w | .lss => .ok (.bool (decide (x < y))) w | o => (binOp o T (.int .i16 x) (.int .i16 y)).run P w) := by
  intro w
  cases op <;> first | rfl | simp [binOp, Op.intCmp]

/-- 'version >= n', 'version < n', .. of a test. -/
theorem reg_cmp {N nt lo t u t1 r x0 ty1 ty2 T U : Nat} {op : BinOp} {p1 p2 : String} {e1 e2 : Array Edge} {x n : Int} {b : Bool} (hN : a.tmps.size = nt) (hs : aget a u = .int .i16 x) (hd : N ≤ t ∧ t ≤ t1 ∧ t1 + 1 < nt ∧ lo ≤ N)
    (hb : ∀ w : World, (binOp op T (.int .i16 x) (.int .i16 n)).run P w = .ok (.bool b) w)
    (h : ∀ a', Fr N lo t x0 a a' → aget a' (t1 + 1) = .bool b → Q .normal a' w) :
    (Code.region r #[⟨some t1, .move (.tmp u), ty1, p1, e1, none⟩, ⟨some (t1 + 1), .binOp op T (.tmp t1) (.const (.int .i16 n)) U, ty2, p2, e2, none⟩] false).wp P Q a w := by
  obtain ⟨h1, h2, h3, h4⟩ := hd
  refine wp_reg ?_
  refine wl_move hs ?_
  refine wl_bin (aget_put_same _ _ _ (by (first | rw [hN] | simp only [size_put, hN]); omega)) (eqGuard_at_int ..) (hb w) ?_
  exact wpList_nil (h _ (((Fr.refl N lo t x0 a).put _ _ (by omega)).put _ _ (by omega)) (aget_put_same _ _ _ (by (first | rw [hN] | simp only [size_put, hN]); omega)))

/-- 'isFlexible := version >= n'. -/
theorem reg_cmpv {N nt lo t u v t1 r x0 ty1 ty2 ty3 T U : Nat} {op : BinOp} {p1 p2 p3 : String} {e1 e2 e3 : Array Edge} {x n : Int} {b : Bool} (hN : a.tmps.size = nt) (hs : aget a u = .int .i16 x) (hd : N ≤ t ∧ t ≤ t1 ∧ t1 + 1 < nt ∧ lo ≤ v ∧ v < N)
    (hb : ∀ w : World, (binOp op T (.int .i16 x) (.int .i16 n)).run P w = .ok (.bool b) w)
    (h : ∀ a', Fr N lo t x0 a a' → aget a' v = .bool b → Q .normal a' w) :
    (Code.region r #[⟨some t1, .move (.tmp u), ty1, p1, e1, none⟩, ⟨some (t1 + 1), .binOp op T (.tmp t1) (.const (.int .i16 n)) U, ty2, p2, e2, none⟩, ⟨some v, .assign (.tmp (t1 + 1)), ty3, p3, e3, none⟩] false).wp P Q a w := by
  obtain ⟨h1, h2, h3, h4, h5⟩ := hd
  refine wp_reg ?_
  refine wl_move hs ?_
  refine wl_bin (aget_put_same _ _ _ (by (first | rw [hN] | simp only [size_put, hN]); omega)) (eqGuard_at_int ..) (hb w) ?_
  refine wl_assign (aget_put_same _ _ _ (by (first | rw [hN] | simp only [size_put, hN]); omega)) ?_
  exact wpList_nil (h _ ((((Fr.refl N lo t x0 a).put _ _ (by omega)).put _ _ (by omega)).put _ _ (by omega)) (aget_put_same _ _ _ (by (first | rw [hN] | simp only [size_put, hN]); omega)))

/-- 'version >= n && version <= m' of a test. -/
theorem reg_range {N nt lo t u t1 r x0 ty1 ty2 ty3 ty4 ty5 ty6 T U T' U' : Nat} {p1 p2 p3 p4 p5 p6 : String} {e1 e2 e3 e4 e5 e6 : Array Edge} {x n m : Int} (hN : a.tmps.size = nt) (hs : aget a u = .int .i16 x) (hd : N ≤ t ∧ t ≤ t1 ∧ t1 + 5 < nt ∧ lo ≤ N ∧ u ≠ t1 ∧ u ≠ t1 + 1 ∧ u ≠ t1 + 2)
    (h : ∀ a', Fr N lo t x0 a a' → aget a' (t1 + 5) = .bool (hasV n (some m) x) → Q .normal a' w) :
    (Code.region r #[⟨some t1, .move (.tmp u), ty1, p1, e1, none⟩, ⟨some (t1 + 1), .binOp .geq T (.tmp t1) (.const (.int .i16 n)) U, ty2, p2, e2, none⟩, ⟨some (t1 + 2), .move (.tmp (t1 + 1)), ty3, p3, e3, none⟩,
      ⟨some (t1 + 3), .move (.tmp u), ty4, p4, e4, some (2, true)⟩, ⟨some (t1 + 4), .binOp .leq T' (.tmp (t1 + 3)) (.const (.int .i16 m)) U', ty5, p5, e5, some (2, true)⟩,
      ⟨some (t1 + 5), .pick (.tmp (t1 + 2)) (.tmp (t1 + 4)) (.const (.bool false)), ty6, p6, e6, none⟩] false).wp P Q a w := by
  obtain ⟨h1, h2, h3, h4, h5, h6, h7⟩ := hd
  refine wp_reg ?_
  refine wl_move hs ?_
  refine wl_bin (r := .bool (decide (n ≤ x))) (aget_put_same _ _ _ (by (first | rw [hN] | simp only [size_put, hN]); omega)) (eqGuard_at_int ..) (by rw [run_cmp_i16]) ?_
  refine wl_move (aget_put_same _ _ _ (by (first | rw [hN] | simp only [size_put, hN]); omega)) ?_
  have hy : ∀ (A : Act) (b : Bool) (l : Array Oper) (o : Oper), l[2]? = some o → o.dst = some (t1 + 2) → aget A (t1 + 2) = .bool b → t1 + 2 < A.tmps.size → yielded l A.tmps 2 = some b := by
    intro A b l o hl ho hA hlt
    unfold aget at hA
    rw [Array.getD_eq_getD_getElem?, Array.getElem?_eq_getElem hlt] at hA
    simp at hA
    simp [yielded, hl, ho, hlt, hA]
  by_cases hn : n ≤ x
  · rw [decide_eq_true hn]
    refine wpList_step fun K hK => ?_
    rw [if_pos (by
      simp only [Region.wanted]
      rw [hy _ true _ _ rfl rfl (aget_put_same _ _ _ (by (first | rw [hN] | simp only [size_put, hN]); omega)) (by (first | rw [hN] | simp only [size_put, hN]); omega)]
      rfl)]
    unfold Oper.wp
    have e0 : ∀ A : Act, aget A u = .int .i16 x → (execOp A.eval ⟨some (t1 + 3), .move (.tmp u), ty4, p4, e4, some (2, true)⟩).run P w = .ok (.value (.int .i16 x)) w := by
      intro A hA
      simp [execOp, aget_eval, hA]
    rw [e0 _ (by rw [aget_put_other _ _ _ _ (by omega), aget_put_other _ _ _ _ (by omega), aget_put_other _ _ _ _ (by omega)]; exact hs)]
    refine hK _ _ ?_
    refine wpList_step fun K2 hK2 => ?_
    rw [if_pos (by
      simp only [Region.wanted]
      rw [hy _ true _ _ rfl rfl (by rw [aget_put_other _ _ _ _ (by omega)]; exact aget_put_same _ _ _ (by (first | rw [hN] | simp only [size_put, hN]); omega)) (by (first | rw [hN] | simp only [size_put, hN]); omega)]
      rfl)]
    unfold Oper.wp
    have e1 : ∀ A : Act, aget A (t1 + 3) = .int .i16 x → (execOp A.eval ⟨some (t1 + 4), .binOp .leq T' (.tmp (t1 + 3)) (.const (.int .i16 m)) U', ty5, p5, e5, some (2, true)⟩).run P w = .ok (.value (.bool (decide (x ≤ m)))) w := by
      intro A hA
      have e2 : A.eval (.tmp (t1 + 3)) = .int .i16 x := hA
      have e3 : A.eval (.const (.int .i16 m)) = .int .i16 m := rfl
      simp [execOp, e2, e3, eqGuard_at_int, run_cmp_i16]
    rw [e1 _ (aget_put_same _ _ _ (by (first | rw [hN] | simp only [size_put, hN]); omega))]
    refine hK2 _ _ ?_
    refine wl_value (v := .bool (hasV n (some m) x)) (w' := w) rfl ?_ ?_
    · have e2 : ∀ A : Act, aget A (t1 + 2) = .bool true → aget A (t1 + 4) = .bool (decide (x ≤ m)) → (execOp A.eval ⟨some (t1 + 5), .pick (.tmp (t1 + 2)) (.tmp (t1 + 4)) (.const (.bool false)), ty6, p6, e6, none⟩).run P w = .ok (.value (.bool (hasV n (some m) x))) w := by
        intro A hA hB
        simp [execOp, aget_eval, hA, hB, asBool, hasV, hn]
      refine e2 _ ?_ (aget_put_same _ _ _ (by (first | rw [hN] | simp only [size_put, hN]); omega))
      rw [aget_put_other _ _ _ _ (by omega), aget_put_other _ _ _ _ (by omega)]
      exact aget_put_same _ _ _ (by (first | rw [hN] | simp only [size_put, hN]); omega)
    · exact wpList_nil (h _ (((((((Fr.refl N lo t x0 a).put _ _ (by omega)).put _ _ (by omega)).put _ _ (by omega)).put _ _ (by omega)).put _ _ (by omega)).put _ _ (by omega)) (aget_put_same _ _ _ (by (first | rw [hN] | simp only [size_put, hN]); omega)))
  · rw [decide_eq_false hn]
    refine wpList_step fun K hK => ?_
    rw [if_neg (by
      simp only [Region.wanted]
      rw [hy _ false _ _ rfl rfl (aget_put_same _ _ _ (by (first | rw [hN] | simp only [size_put, hN]); omega)) (by (first | rw [hN] | simp only [size_put, hN]); omega)]
      decide)]
    refine hK _ _ ?_
    refine wpList_step fun K2 hK2 => ?_
    rw [if_neg (by
      simp only [Region.wanted]
      rw [hy _ false _ _ rfl rfl (by rw [aget_put_other _ _ _ _ (by omega)]; exact aget_put_same _ _ _ (by (first | rw [hN] | simp only [size_put, hN]); omega)) (by (first | rw [hN] | simp only [size_put, hN]); omega)]
      decide)]
    refine hK2 _ _ ?_
    refine wl_value (v := .bool (hasV n (some m) x)) (w' := w) rfl ?_ ?_
    · have e2 : ∀ A : Act, aget A (t1 + 2) = .bool false → (execOp A.eval ⟨some (t1 + 5), .pick (.tmp (t1 + 2)) (.tmp (t1 + 4)) (.const (.bool false)), ty6, p6, e6, none⟩).run P w = .ok (.value (.bool (hasV n (some m) x))) w := by
        intro A hA
        have e3 : A.eval (.const (.bool false)) = .bool false := rfl
        simp [execOp, aget_eval, hA, asBool, hasV, hn, e3]
      refine e2 _ ?_
      rw [aget_put_other _ _ _ _ (by omega), aget_put_other _ _ _ _ (by omega)]
      exact aget_put_same _ _ _ (by (first | rw [hN] | simp only [size_put, hN]); omega)
    · exact wpList_nil (h _ (((((((Fr.refl N lo t x0 a).put _ _ (by omega)).put _ _ (by omega)).put _ _ (by omega)).put _ _ (by omega)).put _ _ (by omega)).put _ _ (by omega)) (aget_put_same _ _ _ (by (first | rw [hN] | simp only [size_put, hN]); omega)))

end
end Go.Proofs.Ytkhpglongkhbjaa
