/- The code that reads a list. -/
import Derived.Test.YtellhjpdpaeieaaDoorRf
import Derived.Lib.AppendZeros
namespace Go.Proofs.YtellhjpdpaeieaaDoor
open Go Go.RowKit
set_option linter.unusedVariables false

/-! Many things, the last one told apart. -/
theorem many_snoc {α : Type} (p : Pr α) : ∀ (n : Nat) (bs : List UInt8), rdMany p (n + 1) bs = ((rdMany p n).bind fun l => p.bind fun v => .pure (l ++ [v])) bs
  | 0, bs => by
    change (p.bind fun v => (rdMany p 0).bind fun l => .pure (v :: l)) bs = (p.bind fun v => .pure ([] ++ [v])) bs
    rfl
  | n + 1, bs => by
    change (p.bind fun v => (rdMany p (n + 1)).bind fun l => .pure (v :: l)) bs = _
    cases hp : p bs with
    | none =>
      rw [bind_none hp, bind_none]
      exact bind_none hp
    | some q =>
      obtain ⟨v, r⟩ := q
      rw [bind_eq hp]
      have ih := many_snoc p n r
      cases hm : rdMany p n r with
      | none =>
        have h1 : rdMany p (n + 1) bs = none := by
          change (p.bind fun v => (rdMany p n).bind fun l => .pure (v :: l)) bs = none
          rw [bind_eq hp]
          exact bind_none hm
        rw [bind_none h1]
        rw [bind_none hm] at ih
        exact bind_none ih
      | some q2 =>
        obtain ⟨l, r2⟩ := q2
        have h1 : rdMany p (n + 1) bs = some (v :: l, r2) := by
          change (p.bind fun v => (rdMany p n).bind fun l => .pure (v :: l)) bs = _
          rw [bind_eq hp]
          exact bind_eq hm
        rw [bind_eq h1]
        rw [bind_eq hm] at ih
        cases hv : p r2 with
        | none =>
          rw [bind_none hv] at ih
          rw [bind_none hv]
          exact bind_none ih
        | some q3 =>
          obtain ⟨u, r3⟩ := q3
          rw [bind_eq hv] at ih
          rw [bind_eq hv]
          exact bind_eq ih
theorem many_none {α : Type} {p : Pr α} {bs : List UInt8} {k : Nat} (h : rdMany p k bs = none) : ∀ {n : Nat}, k ≤ n → rdMany p n bs = none
  | 0, hn => by
    obtain rfl : k = 0 := by omega
    exact h
  | n + 1, hn => by
    by_cases hk : k = n + 1
    · rw [← hk]; exact h
    · rw [many_snoc]
      exact bind_none (many_none h (by omega))
theorem st_snoc {α : Type} (p : Pr α) (st : Option (List UInt8)) (n : Nat) : st.bind (rdMany p (n + 1)) = (st.bind (rdMany p n)).bind fun q => (p q.2).bind fun r => some (q.1 ++ [r.1], r.2) := by
  cases st with
  | none => rfl
  | some bs =>
    change rdMany p (n + 1) bs = (rdMany p n bs).bind _
    rw [many_snoc]
    cases h : rdMany p n bs with
    | none => rw [bind_none h]; rfl
    | some q =>
      obtain ⟨l, r⟩ := q
      rw [bind_eq h]
      change _ = (p r).bind _
      cases h2 : p r with
      | none => rw [bind_none h2]; rfl
      | some q2 => rw [bind_eq (v := q2.1) (r := q2.2) h2]; rfl
theorem st_none {α : Type} {p : Pr α} {st : Option (List UInt8)} {k n : Nat} (h : st.bind (rdMany p k) = none) (hn : k ≤ n) : st.bind (rdMany p n) = none := by
  cases st with
  | none => rfl
  | some bs => exact many_none h hn

/-! Fresh cells. -/
theorem Fresh.congr : ∀ {s : Sch} {c c' : List Value} {o o' : Nat}, Fresh c o s → (∀ j, j < top s → c'[o' + j]? = c[o + j]?) → Fresh c' o' s
  | .leaf k, c, c', o, o', h, hj => by
    have hlen : ∀ j, j < top (.leaf k) → o + j < c.length → o' + j < c'.length := fun j hj' hl => by
      have h1 := hj j hj'
      rw [List.getElem?_eq_getElem hl] at h1
      exact (List.getElem?_eq_some_iff.1 h1).1
    cases k <;> simp only [Fresh] at h ⊢
    case uuid => have := hlen 15 (by decide) (by omega); omega
    all_goals (have := hlen 0 Nat.zero_lt_one (by omega); omega)
  | .list _ _ _, c, c', o, o', h, hj => (hj 0 Nat.zero_lt_one).trans h
  | .opt _, c, c', o, o', h, hj => (hj 0 Nat.zero_lt_one).trans h
  | .done, _, _, _, _, _, _ => trivial
  | .tags off, c, c', o, o', h, hj => (hj off (by simp [top])).trans h
  | .cons off lo hi f rest, c, c', o, o', h, hj => by
    refine ⟨Fresh.congr h.1 fun j hj' => ?_, Fresh.congr h.2 fun j hj' => hj j (by simp only [top]; omega)⟩
    rw [Nat.add_assoc, Nat.add_assoc]
    exact hj (off + j) (by simp only [top]; omega)
theorem zero_at {z : Array Value} {n k j : Nat} (hk : k < n) (hj : j < z.size) : (Builtin.zeroCells z n).toList[k * z.size + j]? = z.toList[j]? := by
  have h1 : k * z.size + j < n * z.size := by
    have := Nat.mul_le_mul_right z.size (show k + 1 ≤ n by omega)
    rw [Nat.add_mul, Nat.one_mul] at this
    omega
  have h2 : (k * z.size + j) % z.size = j := by
    rw [Nat.mul_comm, Nat.mul_add_mod, Nat.mod_eq_of_lt hj]
  simp [Builtin.zeroCells, h1, h2, hj]
/-- The cells of a list that has just been made. -/
theorem made_fresh {z : Array Value} {n m k : Nat} {e : Sch} (hf : Fresh z.toList 0 e) (ht : top e ≤ z.size) (hk : k < n) : Fresh ((Builtin.zeroCells z n ++ Builtin.zeroCells z m).toList) (k * z.size) e := by
  refine hf.congr fun j hj => ?_
  rw [Nat.zero_add, Array.toList_append, List.getElem?_append_left]
  · exact zero_at hk (by omega)
  · rw [Array.length_toList, size_zeroCells]
    have := Nat.mul_le_mul_right z.size (show k + 1 ≤ n by omega)
    rw [Nat.add_mul, Nat.one_mul] at this
    omega
theorem run_append_zeros {P : Program} (w : World) (t tn ty e : TypeId) (i : TypeInfo) (z : Value) (k kn : IntKind) (ht : P.underlying t = some (.slice e)) (htn : P.underlying tn = some (.int kn)) (hi : P.info? e = some i) (hz : i.zero = some z)
    (base : Option Addr) (n : Nat) (h0 : 0 < n) (hs : 0 < i.size) (h63 : (n : Int) ≤ 9223372036854775807) (h48 : n * i.bytes ≤ 281474976710656) :
    (Builtin.append_ #[t, tn] ty #[.slice base 0 0, .int k n]).run P w =
      .ok (.slice (some ⟨w.heap.size, 0, none⟩) n (grownCap w n 0 e)) (w.drew.alloc (.cells (Builtin.zeroCells z.cells n ++ Builtin.zeroCells z.cells (grownCap w n 0 e - n)) e)) := by
  have hn : n ≠ 0 := by omega
  have hw : IntKind.i64.wrap (n : Int) = n := by rw [IntKind.wrap_i64]; omega
  have h63' : ¬ (9223372036854775807 < (n : Int)) := by omega
  have h48' : ¬ (281474976710656 < Builtin.nextslicecap n 0 * i.bytes) := by rw [nextslicecap_zero h0]; omega
  have h48i : ¬ (281474976710656 < (n : Int) * (i.bytes : Int)) := by
    rw [← Int.natCast_mul]
    omega
  have hneg : ¬ ((n : Int) < 0) := by omega
  have hns : ¬ (n * i.size = 0) := Nat.mul_ne_zero hn (by omega)
  cases base with
  | none => simp [Builtin.append_, run_underlying ht, run_underlying htn, sizeOf, typeInfo, zeroValue, hi, hz, asInt, asIntOf, hw, hn, hneg, hns, h63', h48', h48i, Question.forced, run_firstCells_none, newRow, grownCap]
  | some ad =>
    have hf : (Builtin.firstCells i.size 0 (.slice (some ad) 0 0)).run P w.drew = .ok #[] w.drew := run_firstCells_some w.drew i.size 0 ad 0 0 [] (by simp) (by intro _ _ h'; simp at h')
    simp [Builtin.append_, run_underlying ht, run_underlying htn, sizeOf, typeInfo, zeroValue, hi, hz, asInt, asIntOf, hw, hn, hneg, hns, h63', h48', h48i, Question.forced, hf, newRow, grownCap]
end Go.Proofs.YtellhjpdpaeieaaDoor
