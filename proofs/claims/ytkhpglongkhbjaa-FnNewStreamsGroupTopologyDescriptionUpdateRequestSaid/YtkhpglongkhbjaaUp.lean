/- Laying a tag into a list of tags by rising numbers, step by step: where it goes, what is moved. No program in sight. -/
import Derived.Test.YtkhpglongkhbjaaTree
import Derived.Laws.OwnMore
namespace Go.Proofs.Ytkhpglongkhbjaa

/-- Where a tag is laid: behind all of lower numbers. -/
def posU {α : Type} (k : Nat) : List (Nat × α) → Nat
  | [] => 0
  | (j, _) :: r => if j < k then posU k r + 1 else 0
theorem posU_le {α : Type} (k : Nat) : ∀ l : List (Nat × α), posU k l ≤ l.length
  | [] => Nat.le_refl _
  | (j, _) :: r => by
    have := posU_le k r
    simp only [posU, List.length_cons]
    split <;> omega
theorem posU_lt {α : Type} (k : Nat) : ∀ (l : List (Nat × α)) (i : Nat) (t : Nat × α), i < posU k l → l[i]? = some t → t.1 < k
  | [], i, t, h, _ => by simp [posU] at h
  | (j, x) :: r, i, t, h, ht => by
    simp only [posU] at h
    split at h
    · rename_i hj
      cases i with
      | zero => simp at ht; subst ht; exact hj
      | succ i => exact posU_lt k r i t (by omega) (by simpa using ht)
    · omega
theorem posU_at {α : Type} (k : Nat) : ∀ (l : List (Nat × α)) (t : Nat × α), l[posU k l]? = some t → k ≤ t.1
  | [], t, h => by simp at h
  | (j, x) :: r, t, h => by
    simp only [posU] at h
    split at h
    · exact posU_at k r t (by simpa using h)
    · simp at h; subst h; simp only; omega
/-- A place ahead of which all numbers are lower, and which holds none that is lower, is the tag's. -/
theorem posU_eq {α : Type} (k : Nat) (l : List (Nat × α)) (i : Nat) (h1 : i ≤ posU k l) (h2 : ∀ t, l[i]? = some t → k ≤ t.1) : i = posU k l := by
  rcases Nat.lt_or_ge i (posU k l) with h | h
  · have hl := posU_le k l
    have hi : l[i]? = some (l[i]'(by omega)) := List.getElem?_eq_getElem _
    have := posU_lt k l i _ h hi
    have := h2 _ hi
    omega
  · omega
theorem posU_next {α : Type} (k : Nat) (l : List (Nat × α)) (i : Nat) (t : Nat × α) (h1 : i ≤ posU k l) (h2 : l[i]? = some t) (h3 : t.1 < k) : i + 1 ≤ posU k l := by
  rcases Nat.lt_or_ge i (posU k l) with h | h
  · exact h
  · have e : i = posU k l := by omega
    subst e
    have := posU_at k l t h2
    omega
/-- A tag laid in at its place, unless one of its number stands there. -/
def insG {α : Type} (k : Nat) (v : α) (l : List (Nat × α)) : List (Nat × α) :=
  match l[posU k l]? with
  | some t => if t.1 = k then l else l.take (posU k l) ++ (k, v) :: l.drop (posU k l)
  | none => l.take (posU k l) ++ (k, v) :: l.drop (posU k l)
theorem insG_there {α : Type} {k : Nat} {v : α} {l : List (Nat × α)} {t : Nat × α} (h : l[posU k l]? = some t) (hk : t.1 = k) : insG k v l = l := by simp only [insG, h, if_pos hk]
theorem insG_new {α : Type} {k : Nat} {v : α} {l : List (Nat × α)} (h : ∀ t, l[posU k l]? = some t → t.1 ≠ k) : insG k v l = l.take (posU k l) ++ (k, v) :: l.drop (posU k l) := by
  unfold insG
  split
  · rename_i t ht
    rw [if_neg (h t ht)]
  · rfl
theorem insU_insG (k : Nat) (v : List UInt8) : ∀ l : List (Nat × List UInt8), insU k v l = insG k v l
  | [] => rfl
  | (j, u) :: r => by
    have ih := insU_insG k v r
    simp only [insU, insG, posU]
    by_cases h1 : j < k
    · simp only [if_pos h1, List.getElem?_cons_succ, List.take_succ_cons, List.drop_succ_cons, List.cons_append]
      rw [ih]
      unfold insG
      split
      · rename_i t ht
        split <;> rfl
      · rfl
    · simp only [if_neg h1, List.getElem?_cons_zero, List.take_zero, List.drop_zero, List.nil_append]
theorem posU_map {α β : Type} (f : α → β) (k : Nat) : ∀ l : List (Nat × α), posU k (l.map fun t => (t.1, f t.2)) = posU k l
  | [] => rfl
  | (j, u) :: r => by simp only [List.map_cons, posU, posU_map f k r]
theorem insG_map {α β : Type} (f : α → β) (k : Nat) (v : α) (l : List (Nat × α)) : (insG k v l).map (fun t => (t.1, f t.2)) = insG k (f v) (l.map fun t => (t.1, f t.2)) := by
  unfold insG
  rw [posU_map, List.getElem?_map]
  cases h : l[posU k l]? with
  | none => simp [List.map_take, List.map_drop]
  | some t =>
    simp only [Option.map_some]
    split
    · rfl
    · simp [List.map_take, List.map_drop]
theorem insG_mem {α : Type} {k : Nat} {v : α} {l : List (Nat × α)} {t : Nat × α} (h : t ∈ insG k v l) : t = (k, v) ∨ t ∈ l := by
  unfold insG at h
  have key : t ∈ l.take (posU k l) ++ (k, v) :: l.drop (posU k l) → t = (k, v) ∨ t ∈ l := by
    intro h
    simp only [List.mem_append, List.mem_cons] at h
    rcases h with h | h | h
    · exact .inr (List.mem_of_mem_take h)
    · exact .inl h
    · exact .inr (List.mem_of_mem_drop h)
  split at h
  · split at h
    · exact .inr h
    · exact key h
  · exact key h
theorem insG_length {α : Type} (k : Nat) (v : α) (l : List (Nat × α)) : (insG k v l).length ≤ l.length + 1 := by
  unfold insG
  have hp := posU_le k l
  split
  · split
    · omega
    · simp; omega
  · simp; omega
/-- The first n tags, laid in one by one. -/
def unkTo (n : Nat) (l : List (Nat × List UInt8)) : List (Nat × List UInt8) := (l.take n).foldl (fun acc t => insU t.1 t.2 acc) []
theorem unkTo_zero (l : List (Nat × List UInt8)) : unkTo 0 l = [] := rfl
theorem unkTo_succ {l : List (Nat × List UInt8)} {n : Nat} {t : Nat × List UInt8} (h : l[n]? = some t) : unkTo (n + 1) l = insU t.1 t.2 (unkTo n l) := by
  unfold unkTo
  rw [List.take_add_one, h, List.foldl_append]
  rfl
theorem unk_unkTo (l : List (Nat × List UInt8)) : unk l = unkTo (min l.length 32767) l := by
  unfold unk unkTo
  rcases Nat.le_total l.length 32767 with h | h
  · rw [Nat.min_eq_left h, List.take_of_length_le h, List.take_of_length_le (Nat.le_refl _)]
  · rw [Nat.min_eq_right h]
theorem unkTo_length (l : List (Nat × List UInt8)) : ∀ n, (unkTo n l).length ≤ n
  | 0 => Nat.le_refl _
  | n + 1 => by
    have ih := unkTo_length l n
    cases h : l[n]? with
    | none =>
      have hn : l.length ≤ n := List.getElem?_eq_none_iff.1 h
      have e : unkTo (n + 1) l = unkTo n l := by unfold unkTo; rw [List.take_of_length_le hn, List.take_of_length_le (by omega)]
      rw [e]
      omega
    | some t =>
      rw [unkTo_succ h, insU_insG]
      have := insG_length t.1 t.2 (unkTo n l)
      omega
theorem unk_len (l : List (Nat × List UInt8)) : (unk l).length ≤ 32767 := by
  rw [unk_unkTo]
  have := unkTo_length l (min l.length 32767)
  omega

/-- The cells of tags: number, octets. -/
abbrev TV := Nat × Go.Value × List UInt8
def cellsU (l : List TV) : List Go.Value := l.flatMap fun t => [.int .u32 (t.1 : Int), t.2.1]
def bytesU (l : List TV) : List (Nat × List UInt8) := l.map fun t => (t.1, t.2.2)
theorem cellsU_length (l : List TV) : (cellsU l).length = l.length * 2 := by
  induction l with
  | nil => rfl
  | cons t l ih => simp only [cellsU, List.flatMap_cons, List.length_append, List.length_cons, List.length_nil] at ih ⊢; omega
theorem cellsU_append (l l' : List TV) : cellsU (l ++ l') = cellsU l ++ cellsU l' := by simp [cellsU]
theorem cellsU_get0 : ∀ (l : List TV) (i : Nat) (t : TV), l[i]? = some t → (cellsU l)[2 * i]? = some (.int .u32 (t.1 : Int))
  | [], i, t, h => by simp at h
  | x :: l, 0, t, h => by simp at h; subst h; rfl
  | x :: l, i + 1, t, h => by
    have := cellsU_get0 l i t (by simpa using h)
    rw [show 2 * (i + 1) = 2 * i + 1 + 1 by omega]
    simpa [cellsU] using this
theorem cellsU_get1 : ∀ (l : List TV) (i : Nat) (t : TV), l[i]? = some t → (cellsU l)[2 * i + 1]? = some t.2.1
  | [], i, t, h => by simp at h
  | x :: l, 0, t, h => by simp at h; subst h; rfl
  | x :: l, i + 1, t, h => by
    have := cellsU_get1 l i t (by simpa using h)
    rw [show 2 * (i + 1) + 1 = 2 * i + 1 + 1 + 1 by omega]
    simpa [cellsU] using this
theorem cellsU_set : ∀ (l : List TV) (i : Nat) (t : TV), i < l.length → ((cellsU l).set (2 * i) (.int .u32 (t.1 : Int))).set (2 * i + 1) t.2.1 = cellsU (l.set i t)
  | [], i, t, h => by simp at h
  | x :: l, 0, t, h => rfl
  | x :: l, i + 1, t, h => by
    have := cellsU_set l i t (by simpa using h)
    rw [show 2 * (i + 1) = 2 * i + 1 + 1 by omega]
    simp only [cellsU, List.flatMap_cons, List.cons_append, List.nil_append, List.set_cons_succ] at this ⊢
    rw [this]
/-- While tags are moved up: the first k, one to be overwritten, the others. -/
theorem shift_get {α : Type} {l : List α} {k : Nat} {x : α} (hk : k < l.length) : (l.take (k + 1) ++ x :: l.drop (k + 1))[k]? = some l[k] := by
  rw [List.getElem?_append_left (by simp; omega), List.getElem?_take, if_pos (by omega), List.getElem?_eq_getElem hk]
theorem shift_at {α : Type} {l : List α} {k : Nat} {x : α} (hk : k ≤ l.length) : (l.take k ++ x :: l.drop k)[k]? = some x := by
  have e : (l.take k).length = k := by rw [List.length_take]; omega
  rw [List.getElem?_append_right (by omega), e, Nat.sub_self, List.getElem?_cons_zero]
theorem shift_set {α : Type} {l : List α} {k : Nat} {x : α} (hk : k < l.length) : (l.take (k + 1) ++ x :: l.drop (k + 1)).set (k + 1) l[k] = l.take k ++ l[k] :: l.drop k := by
  rw [List.set_append_right _ _ (by simp; omega)]
  have e : k + 1 - (l.take (k + 1)).length = 0 := by simp; omega
  rw [e, List.set_cons_zero, List.take_add_one, List.getElem?_eq_getElem hk]
  simp only [Option.toList_some, List.append_assoc, List.cons_append, List.nil_append]
  congr 2
  rw [List.drop_eq_getElem_cons hk]
theorem shift_fin {α : Type} {l : List α} {k : Nat} {x y : α} (hk : k ≤ l.length) : (l.take k ++ x :: l.drop k).set k y = l.take k ++ y :: l.drop k := by
  rw [List.set_append_right _ _ (by simp; omega)]
  have e : k - (l.take k).length = 0 := by simp; omega
  rw [e, List.set_cons_zero]
end Go.Proofs.Ytkhpglongkhbjaa
