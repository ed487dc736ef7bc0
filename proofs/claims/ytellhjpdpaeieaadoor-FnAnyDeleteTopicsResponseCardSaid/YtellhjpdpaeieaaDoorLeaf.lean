/- The kinds of fields, each with the function that writes it, at this program. -/
import Derived.Test.YtellhjpdpaeieaaDoorAppc
import Derived.Test.YtellhjpdpaeieaaDoorKt
namespace Go.Proofs.YtellhjpdpaeieaaDoor
open Go Go.RowKit

theorem kok2 {N lo t a b : Nat} {x y : Value} (h : (a ≠ 1 ∧ (a < lo ∨ (N ≤ a ∧ a < t))) ∧ (b ≠ 1 ∧ (b < lo ∨ (N ≤ b ∧ b < t)))) : KOK N lo t [(a, x), (b, y)] := by
  intro p hp
  simp only [List.mem_cons, List.not_mem_nil, or_false] at hp
  rcases hp with rfl | rfl
  · exact h.1
  · exact h.2
theorem kok1 {N lo t a : Nat} {x : Value} (h : a ≠ 1 ∧ (a < lo ∨ (N ≤ a ∧ a < t))) : KOK N lo t [(a, x)] := by
  intro p hp
  simp only [List.mem_cons, List.not_mem_nil, or_false] at hp
  subst hp
  exact h
theorem mem2a {p q : Nat × Value} : p ∈ [p, q] := List.mem_cons_self ..
theorem mem2b {p q : Nat × Value} : q ∈ [p, q] := List.mem_cons_of_mem _ (List.mem_cons_self ..)
theorem mem1a {p : Nat × Value} : p ∈ [p] := List.mem_cons_self ..

theorem str_size (l : List UInt8) : (ByteArray.mk l.toArray).size = l.length := by simp [ByteArray.size]
theorem str_data (l : List UInt8) : (ByteArray.mk l.toArray).data.toList = l := by simp
theorem cell_eq {w : World} {ad : Addr} {x y : Value} (h : w.cell? ad = some x) (h' : w.cell? ad = some y) : x = y := Option.some.inj (h.symm.trans h')

theorem leaf_i16 (ver : Int) (flex : Bool) : LeafOK Tryd.prog ver flex 70 .i16 := by
  intro w0 b o x v hr hc
  cases v <;> simp only [RepLeaf] at hr <;> try exact hr.elim
  obtain ⟨h1, h2, h3⟩ := hr
  obtain rfl := cell_eq h1 hc
  exact (appendInt16 _ h2 h3).at
theorem leaf_i32 (ver : Int) (flex : Bool) : LeafOK Tryd.prog ver flex 55 .i32 := by
  intro w0 b o x v hr hc
  cases v <;> simp only [RepLeaf] at hr <;> try exact hr.elim
  obtain ⟨h1, h2, h3⟩ := hr
  obtain rfl := cell_eq h1 hc
  exact (appendInt32 _ h2 h3).at
theorem leaf_u16 (ver : Int) (flex : Bool) : LeafOK Tryd.prog ver flex 104 .u16 := by
  intro w0 b o x v hr hc
  cases v <;> simp only [RepLeaf] at hr <;> try exact hr.elim
  obtain ⟨h1, h2, h3⟩ := hr
  obtain rfl := cell_eq h1 hc
  exact (appendUint16 _ h2 h3).at
theorem leaf_i64 (ver : Int) (flex : Bool) : LeafOK Tryd.prog ver flex 80 .i64 := by
  intro w0 b o x v hr hc
  cases v <;> simp only [RepLeaf] at hr <;> try exact hr.elim
  obtain rfl := cell_eq hr hc
  exact (appendInt64 _).at
theorem leaf_bool (ver : Int) (flex : Bool) : LeafOK Tryd.prog ver flex 77 .bool := by
  intro w0 b o x v hr hc
  cases v <;> simp only [RepLeaf] at hr <;> try exact hr.elim
  obtain rfl := cell_eq hr hc
  exact (appendBool _).at
theorem leaf_str_false (ver : Int) : LeafOK Tryd.prog ver false 64 .str := by
  intro w0 b o x v hr hc
  cases v <;> simp only [RepLeaf] at hr <;> try exact hr.elim
  rename_i l
  obtain ⟨h1, h2⟩ := hr
  obtain rfl := cell_eq h1 hc
  have h := (appendString ⟨l.toArray⟩ (by rw [str_size]; simp [strMax] at h2; omega)).at (w0 := w0)
  rw [str_size, str_data] at h
  exact h
theorem leaf_str_true (ver : Int) : LeafOK Tryd.prog ver true 63 .str := by
  intro w0 b o x v hr hc
  cases v <;> simp only [RepLeaf] at hr <;> try exact hr.elim
  rename_i l
  obtain ⟨h1, h2⟩ := hr
  obtain rfl := cell_eq h1 hc
  have h := (appendCompactString ⟨l.toArray⟩ (by rw [str_size]; simp [strMax] at h2; omega)).at (w0 := w0)
  rw [str_size, str_data] at h
  exact h
theorem leaf_nstr_false (ver : Int) : LeafOK Tryd.prog ver false 72 .nstr := by
  intro w0 b o x v hr hc
  cases v <;> simp only [RepLeaf] at hr <;> try exact hr.elim
  · rename_i l
    obtain ⟨⟨p, q, h1, -, h3⟩, h2⟩ := hr
    obtain rfl := cell_eq h1 hc
    intro w v bs hb ho hl
    have h := appendNullableString_some ⟨l.toArray⟩ (by rw [str_size]; simp [strMax] at h2; omega) ⟨p, q, none⟩ w0.heap.size w v bs ((hb.cell (World.block_lt_of_cell? w0 _ h3)).trans h3) ho hb.size
    rw [str_size, str_data] at h
    exact h hl
  · obtain rfl := cell_eq hr hc
    exact appendNullableString_nil.at
/-- The same of a text that may be null from a version on, at these versions. -/
theorem leaf_nstrFrom_false (ver n : Int) (hn : ¬ ver < n) : LeafOK Tryd.prog ver false 72 (.nstrFrom n) := by
  intro w0 b o x v hr hc
  cases v <;> simp only [RepLeaf] at hr <;> try exact hr.elim
  · rename_i l
    exact leaf_nstr_false ver w0 b o x (.bytes l) hr hc
  · have h := leaf_nstr_false ver w0 b o x .null hr hc
    simpa [apLeaf, hn] using h
theorem leaf_nstr_true (ver : Int) : LeafOK Tryd.prog ver true 71 .nstr := by
  intro w0 b o x v hr hc
  cases v <;> simp only [RepLeaf] at hr <;> try exact hr.elim
  · rename_i l
    obtain ⟨⟨p, q, h1, -, h3⟩, h2⟩ := hr
    obtain rfl := cell_eq h1 hc
    intro w v bs hb ho hl
    have h := appendCompactNullableString_some ⟨l.toArray⟩ (by rw [str_size]; simp [strMax] at h2; omega) ⟨p, q, none⟩ w0.heap.size w v bs ((hb.cell (World.block_lt_of_cell? w0 _ h3)).trans h3) ho hb.size
    rw [str_size, str_data] at h
    exact h hl
  · obtain rfl := cell_eq hr hc
    exact appendCompactNullableString_nil.at
/-- The same of a text that may be null from a version on, at these versions. -/
theorem leaf_nstrFrom_true (ver n : Int) (hn : ¬ ver < n) : LeafOK Tryd.prog ver true 71 (.nstrFrom n) := by
  intro w0 b o x v hr hc
  cases v <;> simp only [RepLeaf] at hr <;> try exact hr.elim
  · rename_i l
    exact leaf_nstr_true ver w0 b o x (.bytes l) hr hc
  · have h := leaf_nstr_true ver w0 b o x .null hr hc
    simpa [apLeaf, hn] using h
theorem tags_none : TagsOK noTags Tryd.prog 57 58 := by
  rintro w0 b o l ⟨rfl, hc⟩
  have hlt := World.block_lt_of_cell? w0 _ hc
  refine ⟨by simp, fun w hb => tagsLen0 _ w ((hb.cell hlt).trans hc), fun w v bs hb ho hl => ?_⟩
  have h := appendEach0 ⟨b, o, none⟩ w0.heap.size w v bs ((hb.cell hlt).trans hc) ho hb.size
  simpa [apTags] using h
theorem uvOK (n : Nat) (h : n ≤ 4294967295) : AppC Tryd.prog 56 (.int .u32 n) (uv n) := appendUvarint n h
theorem en_55 : Enters Tryd.prog 55 := Tryd.call55
theorem en_56 : Enters Tryd.prog 56 := Tryd.call56
theorem en_57 : Enters Tryd.prog 57 := Tryd.call57
theorem en_58 : Enters Tryd.prog 58 := Tryd.call58
theorem en_61 : Enters Tryd.prog 61 := Tryd.call61
theorem en_62 : Enters Tryd.prog 62 := Tryd.call62
theorem en_63 : Enters Tryd.prog 63 := Tryd.call63
theorem en_64 : Enters Tryd.prog 64 := Tryd.call64
theorem en_65 : Enters Tryd.prog 65 := Tryd.call65
theorem en_66 : Enters Tryd.prog 66 := Tryd.call66
theorem en_69 : Enters Tryd.prog 69 := Tryd.call69
theorem en_70 : Enters Tryd.prog 70 := Tryd.call70
theorem en_71 : Enters Tryd.prog 71 := Tryd.call71
theorem en_72 : Enters Tryd.prog 72 := Tryd.call72
theorem en_77 : Enters Tryd.prog 77 := Tryd.call77
theorem en_80 : Enters Tryd.prog 80 := Tryd.call80
theorem en_81 : Enters Tryd.prog 81 := Tryd.call81
theorem en_83 : Enters Tryd.prog 83 := Tryd.call83
theorem en_84 : Enters Tryd.prog 84 := Tryd.call84
theorem en_85 : Enters Tryd.prog 85 := Tryd.call85
theorem en_86 : Enters Tryd.prog 86 := Tryd.call86
theorem en_87 : Enters Tryd.prog 87 := Tryd.call87
theorem en_88 : Enters Tryd.prog 88 := Tryd.call88
theorem en_89 : Enters Tryd.prog 89 := Tryd.call89
theorem en_90 : Enters Tryd.prog 90 := Tryd.call90
theorem en_92 : Enters Tryd.prog 92 := Tryd.call92
theorem en_93 : Enters Tryd.prog 93 := Tryd.call93
theorem en_94 : Enters Tryd.prog 94 := Tryd.call94
theorem en_95 : Enters Tryd.prog 95 := Tryd.call95
theorem en_97 : Enters Tryd.prog 97 := Tryd.call97
theorem en_99 : Enters Tryd.prog 99 := Tryd.call99
theorem en_100 : Enters Tryd.prog 100 := Tryd.call100
theorem en_101 : Enters Tryd.prog 101 := Tryd.call101
theorem en_102 : Enters Tryd.prog 102 := Tryd.call102
theorem en_103 : Enters Tryd.prog 103 := Tryd.call103
theorem en_104 : Enters Tryd.prog 104 := Tryd.call104
theorem en_109 : Enters Tryd.prog 109 := Tryd.call109
theorem en_113 : Enters Tryd.prog 113 := Tryd.call113
theorem en_114 : Enters Tryd.prog 114 := Tryd.call114
theorem en_115 : Enters Tryd.prog 115 := Tryd.call115
theorem en_116 : Enters Tryd.prog 116 := Tryd.call116
theorem en_117 : Enters Tryd.prog 117 := Tryd.call117
theorem en_121 : Enters Tryd.prog 121 := Tryd.call121
theorem en_122 : Enters Tryd.prog 122 := Tryd.call122
theorem en_124 : Enters Tryd.prog 124 := Tryd.call124
theorem en_125 : Enters Tryd.prog 125 := Tryd.call125
theorem lenOK_false (n : Nat) (h : n ≤ 2147483646) : AppC Tryd.prog 66 (.int .i64 n) (lenB false n) := appendArrayLen n (by omega)
theorem nlenOK_false (n : Nat) (h : n ≤ 2147483646) : AppC2 Tryd.prog 62 n false (lenB false n) := fun base w v bs ho hb hl => appendNullableArrayLen_false n (by omega) base w v bs ho hb hl
theorem nnulOK_false : AppC2 Tryd.prog 62 0 true (nulB false) := fun base w v bs ho hb hl => appendNullableArrayLen_true 0 (by omega) base w v bs ho hb hl
theorem lenOK_true (n : Nat) (h : n ≤ 2147483646) : AppC Tryd.prog 65 (.int .i64 n) (lenB true n) := appendCompactArrayLen n (by omega)
theorem nlenOK_true (n : Nat) (h : n ≤ 2147483646) : AppC2 Tryd.prog 61 n false (lenB true n) := fun base w v bs ho hb hl => appendCompactNullableArrayLen_false n (by omega) base w v bs ho hb hl
theorem nnulOK_true : AppC2 Tryd.prog 61 0 true (nulB true) := fun base w v bs ho hb hl => appendCompactNullableArrayLen_true 0 (by omega) base w v bs ho hb hl
end Go.Proofs.YtellhjpdpaeieaaDoor
