/- The kinds of fields, each with the function that writes it, at this program. -/
import Derived.Test.YtaihhpnfelobjaaAppc
import Derived.Test.YtaihhpnfelobjaaKt
namespace Go.Proofs.Ytaihhpnfelobjaa
open Go Go.RowKit

theorem kok2 {N lo t a b : Nat} {x y : Value} (h : (a ≠ 1 ∧ (a < lo ∨ (N ≤ a ∧ a < t))) ∧ (b ≠ 1 ∧ (b < lo ∨ (N ≤ b ∧ b < t)))) : KOK N lo t [(a, x), (b, y)] := by
  intro p hp
  simp only [List.mem_cons, List.not_mem_nil, or_false] at hp
  rcases hp with rfl | rfl
  · exact h.1
  · exact h.2
theorem kok1 {N lo t a : Nat} {x : Value} (h : a ≠ 1 ∧ (a < lo ∨ (N ≤ a ∧ a < t))) : KOK N lo t [(a, x)] := by
  intro p hp
  simp only [List.mem_cons, List.not_mem_nil, or_false] at hp
  subst hp
  exact h
theorem mem2a {p q : Nat × Value} : p ∈ [p, q] := List.mem_cons_self ..
theorem mem2b {p q : Nat × Value} : q ∈ [p, q] := List.mem_cons_of_mem _ (List.mem_cons_self ..)
theorem mem1a {p : Nat × Value} : p ∈ [p] := List.mem_cons_self ..

theorem str_size (l : List UInt8) : (ByteArray.mk l.toArray).size = l.length := by simp [ByteArray.size]
theorem str_data (l : List UInt8) : (ByteArray.mk l.toArray).data.toList = l := by simp
theorem cell_eq {w : World} {ad : Addr} {x y : Value} (h : w.cell? ad = some x) (h' : w.cell? ad = some y) : x = y := Option.some.inj (h.symm.trans h')

theorem leaf_i8 (ver : Int) (flex : Bool) : LeafOK Try.prog ver flex 118 .i8 := by
  intro w0 b o x v hr hc
  cases v <;> simp only [RepLeaf] at hr <;> try exact hr.elim
  obtain ⟨h1, h2, h3⟩ := hr
  obtain rfl := cell_eq h1 hc
  exact (appendInt8 _ h2 h3).at
theorem leaf_i16 (ver : Int) (flex : Bool) : LeafOK Try.prog ver flex 97 .i16 := by
  intro w0 b o x v hr hc
  cases v <;> simp only [RepLeaf] at hr <;> try exact hr.elim
  obtain ⟨h1, h2, h3⟩ := hr
  obtain rfl := cell_eq h1 hc
  exact (appendInt16 _ h2 h3).at
theorem leaf_i32 (ver : Int) (flex : Bool) : LeafOK Try.prog ver flex 92 .i32 := by
  intro w0 b o x v hr hc
  cases v <;> simp only [RepLeaf] at hr <;> try exact hr.elim
  obtain ⟨h1, h2, h3⟩ := hr
  obtain rfl := cell_eq h1 hc
  exact (appendInt32 _ h2 h3).at
theorem leaf_u16 (ver : Int) (flex : Bool) : LeafOK Try.prog ver flex 125 .u16 := by
  intro w0 b o x v hr hc
  cases v <;> simp only [RepLeaf] at hr <;> try exact hr.elim
  obtain ⟨h1, h2, h3⟩ := hr
  obtain rfl := cell_eq h1 hc
  exact (appendUint16 _ h2 h3).at
theorem leaf_bool (ver : Int) (flex : Bool) : LeafOK Try.prog ver flex 119 .bool := by
  intro w0 b o x v hr hc
  cases v <;> simp only [RepLeaf] at hr <;> try exact hr.elim
  obtain rfl := cell_eq hr hc
  exact (appendBool _).at
theorem leaf_str_false (ver : Int) : LeafOK Try.prog ver false 96 .str := by
  intro w0 b o x v hr hc
  cases v <;> simp only [RepLeaf] at hr <;> try exact hr.elim
  rename_i l
  obtain ⟨h1, h2⟩ := hr
  obtain rfl := cell_eq h1 hc
  have h := (appendString ⟨l.toArray⟩ (by rw [str_size]; simp [strMax] at h2; omega)).at (w0 := w0)
  rw [str_size, str_data] at h
  exact h
theorem leaf_str_true (ver : Int) : LeafOK Try.prog ver true 95 .str := by
  intro w0 b o x v hr hc
  cases v <;> simp only [RepLeaf] at hr <;> try exact hr.elim
  rename_i l
  obtain ⟨h1, h2⟩ := hr
  obtain rfl := cell_eq h1 hc
  have h := (appendCompactString ⟨l.toArray⟩ (by rw [str_size]; simp [strMax] at h2; omega)).at (w0 := w0)
  rw [str_size, str_data] at h
  exact h
theorem leaf_nstr_false (ver : Int) : LeafOK Try.prog ver false 99 .nstr := by
  intro w0 b o x v hr hc
  cases v <;> simp only [RepLeaf] at hr <;> try exact hr.elim
  · rename_i l
    obtain ⟨⟨p, q, h1, -, h3⟩, h2⟩ := hr
    obtain rfl := cell_eq h1 hc
    intro w v bs hb ho hl
    have h := appendNullableString_some ⟨l.toArray⟩ (by rw [str_size]; simp [strMax] at h2; omega) ⟨p, q, none⟩ w0.heap.size w v bs ((hb.cell (World.block_lt_of_cell? w0 _ h3)).trans h3) ho hb.size
    rw [str_size, str_data] at h
    exact h hl
  · obtain rfl := cell_eq hr hc
    exact appendNullableString_nil.at
/-- The same of a text that may be null from a version on, at these versions. -/
theorem leaf_nstrFrom_false (ver n : Int) (hn : ¬ ver < n) : LeafOK Try.prog ver false 99 (.nstrFrom n) := by
  intro w0 b o x v hr hc
  cases v <;> simp only [RepLeaf] at hr <;> try exact hr.elim
  · rename_i l
    exact leaf_nstr_false ver w0 b o x (.bytes l) hr hc
  · have h := leaf_nstr_false ver w0 b o x .null hr hc
    simpa [apLeaf, hn] using h
theorem leaf_nstr_true (ver : Int) : LeafOK Try.prog ver true 98 .nstr := by
  intro w0 b o x v hr hc
  cases v <;> simp only [RepLeaf] at hr <;> try exact hr.elim
  · rename_i l
    obtain ⟨⟨p, q, h1, -, h3⟩, h2⟩ := hr
    obtain rfl := cell_eq h1 hc
    intro w v bs hb ho hl
    have h := appendCompactNullableString_some ⟨l.toArray⟩ (by rw [str_size]; simp [strMax] at h2; omega) ⟨p, q, none⟩ w0.heap.size w v bs ((hb.cell (World.block_lt_of_cell? w0 _ h3)).trans h3) ho hb.size
    rw [str_size, str_data] at h
    exact h hl
  · obtain rfl := cell_eq hr hc
    exact appendCompactNullableString_nil.at
/-- The same of a text that may be null from a version on, at these versions. -/
theorem leaf_nstrFrom_true (ver n : Int) (hn : ¬ ver < n) : LeafOK Try.prog ver true 98 (.nstrFrom n) := by
  intro w0 b o x v hr hc
  cases v <;> simp only [RepLeaf] at hr <;> try exact hr.elim
  · rename_i l
    exact leaf_nstr_true ver w0 b o x (.bytes l) hr hc
  · have h := leaf_nstr_true ver w0 b o x .null hr hc
    simpa [apLeaf, hn] using h
theorem tags_none : TagsOK noTags Try.prog 101 102 := by
  rintro w0 b o l ⟨rfl, hc⟩
  have hlt := World.block_lt_of_cell? w0 _ hc
  refine ⟨by simp, fun w hb => tagsLen0 _ w ((hb.cell hlt).trans hc), fun w v bs hb ho hl => ?_⟩
  have h := appendEach0 ⟨b, o, none⟩ w0.heap.size w v bs ((hb.cell hlt).trans hc) ho hb.size
  simpa [apTags] using h
theorem uvOK (n : Nat) (h : n ≤ 4294967295) : AppC Try.prog 100 (.int .u32 n) (uv n) := appendUvarint n h
theorem en_92 : Enters Try.prog 92 := Try.call92
theorem en_93 : Enters Try.prog 93 := Try.call93
theorem en_94 : Enters Try.prog 94 := Try.call94
theorem en_95 : Enters Try.prog 95 := Try.call95
theorem en_96 : Enters Try.prog 96 := Try.call96
theorem en_97 : Enters Try.prog 97 := Try.call97
theorem en_98 : Enters Try.prog 98 := Try.call98
theorem en_99 : Enters Try.prog 99 := Try.call99
theorem en_100 : Enters Try.prog 100 := Try.call100
theorem en_101 : Enters Try.prog 101 := Try.call101
theorem en_102 : Enters Try.prog 102 := Try.call102
theorem en_113 : Enters Try.prog 113 := Try.call113
theorem en_118 : Enters Try.prog 118 := Try.call118
theorem en_119 : Enters Try.prog 119 := Try.call119
theorem en_122 : Enters Try.prog 122 := Try.call122
theorem en_123 : Enters Try.prog 123 := Try.call123
theorem en_125 : Enters Try.prog 125 := Try.call125
theorem en_130 : Enters Try.prog 130 := Try.call130
theorem en_131 : Enters Try.prog 131 := Try.call131
theorem en_132 : Enters Try.prog 132 := Try.call132
theorem en_133 : Enters Try.prog 133 := Try.call133
theorem en_144 : Enters Try.prog 144 := Try.call144
theorem lenOK_false (n : Nat) (h : n ≤ 2147483646) : AppC Try.prog 94 (.int .i64 n) (lenB false n) := appendArrayLen n (by omega)
theorem nlenOK_false (n : Nat) (h : n ≤ 2147483646) : AppC2 Try.prog 123 n false (lenB false n) := fun base w v bs ho hb hl => appendNullableArrayLen_false n (by omega) base w v bs ho hb hl
theorem nnulOK_false : AppC2 Try.prog 123 0 true (nulB false) := fun base w v bs ho hb hl => appendNullableArrayLen_true 0 (by omega) base w v bs ho hb hl
theorem lenOK_true (n : Nat) (h : n ≤ 2147483646) : AppC Try.prog 93 (.int .i64 n) (lenB true n) := appendCompactArrayLen n (by omega)
theorem nlenOK_true (n : Nat) (h : n ≤ 2147483646) : AppC2 Try.prog 122 n false (lenB true n) := fun base w v bs ho hb hl => appendCompactNullableArrayLen_false n (by omega) base w v bs ho hb hl
theorem nnulOK_true : AppC2 Try.prog 122 0 true (nulB true) := fun base w v bs ho hb hl => appendCompactNullableArrayLen_true 0 (by omega) base w v bs ho hb hl
end Go.Proofs.Ytaihhpnfelobjaa
