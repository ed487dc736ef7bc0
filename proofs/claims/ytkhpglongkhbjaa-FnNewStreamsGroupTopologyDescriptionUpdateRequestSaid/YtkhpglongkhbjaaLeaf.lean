/- The kinds of fields, each with the function that writes it, at this program. -/
import Derived.Test.YtkhpglongkhbjaaAppc
import Derived.Test.YtkhpglongkhbjaaKt
namespace Go.Proofs.Ytkhpglongkhbjaa
open Go Go.RowKit

theorem kok2 {N lo t a b : Nat} {x y : Value} (h : (a ≠ 1 ∧ (a < lo ∨ (N ≤ a ∧ a < t))) ∧ (b ≠ 1 ∧ (b < lo ∨ (N ≤ b ∧ b < t)))) : KOK N lo t [(a, x), (b, y)] := by
  intro p hp
  simp only [List.mem_cons, List.not_mem_nil, or_false] at hp
  rcases hp with rfl | rfl
  · exact h.1
  · exact h.2
theorem kok1 {N lo t a : Nat} {x : Value} (h : a ≠ 1 ∧ (a < lo ∨ (N ≤ a ∧ a < t))) : KOK N lo t [(a, x)] := by
  intro p hp
  simp only [List.mem_cons, List.not_mem_nil, or_false] at hp
  subst hp
  exact h
theorem mem2a {p q : Nat × Value} : p ∈ [p, q] := List.mem_cons_self ..
theorem mem2b {p q : Nat × Value} : q ∈ [p, q] := List.mem_cons_of_mem _ (List.mem_cons_self ..)
theorem mem1a {p : Nat × Value} : p ∈ [p] := List.mem_cons_self ..

theorem str_size (l : List UInt8) : (ByteArray.mk l.toArray).size = l.length := by simp [ByteArray.size]
theorem str_data (l : List UInt8) : (ByteArray.mk l.toArray).data.toList = l := by simp
theorem cell_eq {w : World} {ad : Addr} {x y : Value} (h : w.cell? ad = some x) (h' : w.cell? ad = some y) : x = y := Option.some.inj (h.symm.trans h')

theorem leaf_i8 (ver : Int) (flex : Bool) : LeafOK Try.prog ver flex 25 .i8 := by
  intro w0 b o x v hr hc
  cases v <;> simp only [RepLeaf] at hr <;> try exact hr.elim
  obtain ⟨h1, h2, h3⟩ := hr
  obtain rfl := cell_eq h1 hc
  exact (appendInt8 _ h2 h3).at
theorem leaf_i16 (ver : Int) (flex : Bool) : LeafOK Try.prog ver flex 40 .i16 := by
  intro w0 b o x v hr hc
  cases v <;> simp only [RepLeaf] at hr <;> try exact hr.elim
  obtain ⟨h1, h2, h3⟩ := hr
  obtain rfl := cell_eq h1 hc
  exact (appendInt16 _ h2 h3).at
theorem leaf_i32 (ver : Int) (flex : Bool) : LeafOK Try.prog ver flex 22 .i32 := by
  intro w0 b o x v hr hc
  cases v <;> simp only [RepLeaf] at hr <;> try exact hr.elim
  obtain ⟨h1, h2, h3⟩ := hr
  obtain rfl := cell_eq h1 hc
  exact (appendInt32 _ h2 h3).at
theorem leaf_u16 (ver : Int) (flex : Bool) : LeafOK Try.prog ver flex 51 .u16 := by
  intro w0 b o x v hr hc
  cases v <;> simp only [RepLeaf] at hr <;> try exact hr.elim
  obtain ⟨h1, h2, h3⟩ := hr
  obtain rfl := cell_eq h1 hc
  exact (appendUint16 _ h2 h3).at
theorem leaf_str_false (ver : Int) : LeafOK Try.prog ver false 21 .str := by
  intro w0 b o x v hr hc
  cases v <;> simp only [RepLeaf] at hr <;> try exact hr.elim
  rename_i l
  obtain ⟨h1, h2⟩ := hr
  obtain rfl := cell_eq h1 hc
  have h := (appendString ⟨l.toArray⟩ (by rw [str_size]; simp [strMax] at h2; omega)).at (w0 := w0)
  rw [str_size, str_data] at h
  exact h
theorem leaf_str_true (ver : Int) : LeafOK Try.prog ver true 20 .str := by
  intro w0 b o x v hr hc
  cases v <;> simp only [RepLeaf] at hr <;> try exact hr.elim
  rename_i l
  obtain ⟨h1, h2⟩ := hr
  obtain rfl := cell_eq h1 hc
  have h := (appendCompactString ⟨l.toArray⟩ (by rw [str_size]; simp [strMax] at h2; omega)).at (w0 := w0)
  rw [str_size, str_data] at h
  exact h
theorem leaf_nstr_false (ver : Int) : LeafOK Try.prog ver false 27 .nstr := by
  intro w0 b o x v hr hc
  cases v <;> simp only [RepLeaf] at hr <;> try exact hr.elim
  · rename_i l
    obtain ⟨⟨p, q, h1, -, h3⟩, h2⟩ := hr
    obtain rfl := cell_eq h1 hc
    intro w v bs hb ho hl
    have h := appendNullableString_some ⟨l.toArray⟩ (by rw [str_size]; simp [strMax] at h2; omega) ⟨p, q, none⟩ w0.heap.size w v bs ((hb.cell (World.block_lt_of_cell? w0 _ h3)).trans h3) ho hb.size
    rw [str_size, str_data] at h
    exact h hl
  · obtain rfl := cell_eq hr hc
    exact appendNullableString_nil.at
/-- The same of a text that may be null from a version on, at these versions. -/
theorem leaf_nstrFrom_false (ver n : Int) (hn : ¬ ver < n) : LeafOK Try.prog ver false 27 (.nstrFrom n) := by
  intro w0 b o x v hr hc
  cases v <;> simp only [RepLeaf] at hr <;> try exact hr.elim
  · rename_i l
    exact leaf_nstr_false ver w0 b o x (.bytes l) hr hc
  · have h := leaf_nstr_false ver w0 b o x .null hr hc
    simpa [apLeaf, hn] using h
theorem leaf_nstr_true (ver : Int) : LeafOK Try.prog ver true 26 .nstr := by
  intro w0 b o x v hr hc
  cases v <;> simp only [RepLeaf] at hr <;> try exact hr.elim
  · rename_i l
    obtain ⟨⟨p, q, h1, -, h3⟩, h2⟩ := hr
    obtain rfl := cell_eq h1 hc
    intro w v bs hb ho hl
    have h := appendCompactNullableString_some ⟨l.toArray⟩ (by rw [str_size]; simp [strMax] at h2; omega) ⟨p, q, none⟩ w0.heap.size w v bs ((hb.cell (World.block_lt_of_cell? w0 _ h3)).trans h3) ho hb.size
    rw [str_size, str_data] at h
    exact h hl
  · obtain rfl := cell_eq hr hc
    exact appendCompactNullableString_nil.at
/-- The same of a text that may be null from a version on, at these versions. -/
theorem leaf_nstrFrom_true (ver n : Int) (hn : ¬ ver < n) : LeafOK Try.prog ver true 26 (.nstrFrom n) := by
  intro w0 b o x v hr hc
  cases v <;> simp only [RepLeaf] at hr <;> try exact hr.elim
  · rename_i l
    exact leaf_nstr_true ver w0 b o x (.bytes l) hr hc
  · have h := leaf_nstr_true ver w0 b o x .null hr hc
    simpa [apLeaf, hn] using h
theorem tags_none : TagsOK noTags Try.prog 29 30 := by
  rintro w0 b o l ⟨rfl, hc⟩
  have hlt := World.block_lt_of_cell? w0 _ hc
  refine ⟨by simp, fun w hb => tagsLen0 _ w ((hb.cell hlt).trans hc), fun w v bs hb ho hl => ?_⟩
  have h := appendEach0 ⟨b, o, none⟩ w0.heap.size w v bs ((hb.cell hlt).trans hc) ho hb.size
  simpa [apTags] using h
theorem uvOK (n : Nat) (h : n ≤ 4294967295) : AppC Try.prog 28 (.int .u32 n) (uv n) := appendUvarint n h
theorem en_20 : Enters Try.prog 20 := Try.call20
theorem en_21 : Enters Try.prog 21 := Try.call21
theorem en_22 : Enters Try.prog 22 := Try.call22
theorem en_23 : Enters Try.prog 23 := Try.call23
theorem en_24 : Enters Try.prog 24 := Try.call24
theorem en_25 : Enters Try.prog 25 := Try.call25
theorem en_26 : Enters Try.prog 26 := Try.call26
theorem en_27 : Enters Try.prog 27 := Try.call27
theorem en_28 : Enters Try.prog 28 := Try.call28
theorem en_29 : Enters Try.prog 29 := Try.call29
theorem en_30 : Enters Try.prog 30 := Try.call30
theorem en_40 : Enters Try.prog 40 := Try.call40
theorem en_41 : Enters Try.prog 41 := Try.call41
theorem en_42 : Enters Try.prog 42 := Try.call42
theorem en_43 : Enters Try.prog 43 := Try.call43
theorem en_44 : Enters Try.prog 44 := Try.call44
theorem en_51 : Enters Try.prog 51 := Try.call51
theorem en_54 : Enters Try.prog 54 := Try.call54
theorem lenOK_false (n : Nat) (h : n ≤ 2147483647) : AppC Try.prog 24 (.int .i64 n) (lenB false n) := appendArrayLen n (by omega)
theorem lenOK_true (n : Nat) (h : n ≤ 2147483647) : AppC Try.prog 23 (.int .i64 n) (lenB true n) := appendCompactArrayLen n (by omega)
end Go.Proofs.Ytkhpglongkhbjaa
