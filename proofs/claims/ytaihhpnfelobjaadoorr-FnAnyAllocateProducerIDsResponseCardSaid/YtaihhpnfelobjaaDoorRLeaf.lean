/- The kinds of fields, each with the function that writes it, at this program. -/
import Derived.Test.YtaihhpnfelobjaaDoorRAppc
import Derived.Test.YtaihhpnfelobjaaDoorRKt
namespace Go.Proofs.YtaihhpnfelobjaaDoorR
open Go Go.RowKit

theorem kok2 {N lo t a b : Nat} {x y : Value} (h : (a ≠ 1 ∧ (a < lo ∨ (N ≤ a ∧ a < t))) ∧ (b ≠ 1 ∧ (b < lo ∨ (N ≤ b ∧ b < t)))) : KOK N lo t [(a, x), (b, y)] := by
  intro p hp
  simp only [List.mem_cons, List.not_mem_nil, or_false] at hp
  rcases hp with rfl | rfl
  · exact h.1
  · exact h.2
theorem kok1 {N lo t a : Nat} {x : Value} (h : a ≠ 1 ∧ (a < lo ∨ (N ≤ a ∧ a < t))) : KOK N lo t [(a, x)] := by
  intro p hp
  simp only [List.mem_cons, List.not_mem_nil, or_false] at hp
  subst hp
  exact h
theorem mem2a {p q : Nat × Value} : p ∈ [p, q] := List.mem_cons_self ..
theorem mem2b {p q : Nat × Value} : q ∈ [p, q] := List.mem_cons_of_mem _ (List.mem_cons_self ..)
theorem mem1a {p : Nat × Value} : p ∈ [p] := List.mem_cons_self ..

theorem str_size (l : List UInt8) : (ByteArray.mk l.toArray).size = l.length := by simp [ByteArray.size]
theorem str_data (l : List UInt8) : (ByteArray.mk l.toArray).data.toList = l := by simp
theorem cell_eq {w : World} {ad : Addr} {x y : Value} (h : w.cell? ad = some x) (h' : w.cell? ad = some y) : x = y := Option.some.inj (h.symm.trans h')

theorem leaf_i8 (ver : Int) (flex : Bool) : LeafOK Tryd.prog ver flex 103 .i8 := by
  intro w0 b o x v hr hc
  cases v <;> simp only [RepLeaf] at hr <;> try exact hr.elim
  obtain ⟨h1, h2, h3⟩ := hr
  obtain rfl := cell_eq h1 hc
  exact (appendInt8 _ h2 h3).at
theorem leaf_i16 (ver : Int) (flex : Bool) : LeafOK Tryd.prog ver flex 96 .i16 := by
  intro w0 b o x v hr hc
  cases v <;> simp only [RepLeaf] at hr <;> try exact hr.elim
  obtain ⟨h1, h2, h3⟩ := hr
  obtain rfl := cell_eq h1 hc
  exact (appendInt16 _ h2 h3).at
theorem leaf_i32 (ver : Int) (flex : Bool) : LeafOK Tryd.prog ver flex 110 .i32 := by
  intro w0 b o x v hr hc
  cases v <;> simp only [RepLeaf] at hr <;> try exact hr.elim
  obtain ⟨h1, h2, h3⟩ := hr
  obtain rfl := cell_eq h1 hc
  exact (appendInt32 _ h2 h3).at
theorem leaf_u16 (ver : Int) (flex : Bool) : LeafOK Tryd.prog ver flex 128 .u16 := by
  intro w0 b o x v hr hc
  cases v <;> simp only [RepLeaf] at hr <;> try exact hr.elim
  obtain ⟨h1, h2, h3⟩ := hr
  obtain rfl := cell_eq h1 hc
  exact (appendUint16 _ h2 h3).at
theorem leaf_i64 (ver : Int) (flex : Bool) : LeafOK Tryd.prog ver flex 113 .i64 := by
  intro w0 b o x v hr hc
  cases v <;> simp only [RepLeaf] at hr <;> try exact hr.elim
  obtain rfl := cell_eq hr hc
  exact (appendInt64 _).at
theorem leaf_bool (ver : Int) (flex : Bool) : LeafOK Tryd.prog ver flex 102 .bool := by
  intro w0 b o x v hr hc
  cases v <;> simp only [RepLeaf] at hr <;> try exact hr.elim
  obtain rfl := cell_eq hr hc
  exact (appendBool _).at
theorem leaf_bytes_false (ver : Int) : LeafOK Tryd.prog ver false 107 .bytes := by
  intro w0 b o x v hr hc
  cases v <;> simp only [RepLeaf] at hr <;> try exact hr.elim
  rename_i l
  obtain ⟨⟨y, h1, h3⟩, h2⟩ := hr
  obtain rfl := cell_eq h1 hc
  intro w v bs hb ho hl
  exact appendBytes l (by omega) _ w0.heap.size w v bs (h3.rl.below hb) ho hb.size hl
theorem leaf_bytes_true (ver : Int) : LeafOK Tryd.prog ver true 106 .bytes := by
  intro w0 b o x v hr hc
  cases v <;> simp only [RepLeaf] at hr <;> try exact hr.elim
  rename_i l
  obtain ⟨⟨y, h1, h3⟩, h2⟩ := hr
  obtain rfl := cell_eq h1 hc
  intro w v bs hb ho hl
  exact appendCompactBytes l (by omega) _ w0.heap.size w v bs (h3.rl.below hb) ho hb.size hl
theorem tags_none : TagsOK noTags Tryd.prog 98 99 := by
  rintro w0 b o l ⟨rfl, hc⟩
  have hlt := World.block_lt_of_cell? w0 _ hc
  refine ⟨by simp, fun w hb => tagsLen0 _ w ((hb.cell hlt).trans hc), fun w v bs hb ho hl => ?_⟩
  have h := appendEach0 ⟨b, o, none⟩ w0.heap.size w v bs ((hb.cell hlt).trans hc) ho hb.size
  simpa [apTags] using h
theorem uvOK (n : Nat) (h : n ≤ 4294967295) : AppC Tryd.prog 97 (.int .u32 n) (uv n) := appendUvarint n h
theorem en_96 : Enters Tryd.prog 96 := Tryd.call96
theorem en_97 : Enters Tryd.prog 97 := Tryd.call97
theorem en_98 : Enters Tryd.prog 98 := Tryd.call98
theorem en_99 : Enters Tryd.prog 99 := Tryd.call99
theorem en_102 : Enters Tryd.prog 102 := Tryd.call102
theorem en_103 : Enters Tryd.prog 103 := Tryd.call103
theorem en_106 : Enters Tryd.prog 106 := Tryd.call106
theorem en_107 : Enters Tryd.prog 107 := Tryd.call107
theorem en_110 : Enters Tryd.prog 110 := Tryd.call110
theorem en_113 : Enters Tryd.prog 113 := Tryd.call113
theorem en_125 : Enters Tryd.prog 125 := Tryd.call125
theorem en_127 : Enters Tryd.prog 127 := Tryd.call127
theorem en_128 : Enters Tryd.prog 128 := Tryd.call128
theorem en_129 : Enters Tryd.prog 129 := Tryd.call129
theorem en_130 : Enters Tryd.prog 130 := Tryd.call130
theorem en_131 : Enters Tryd.prog 131 := Tryd.call131
theorem en_132 : Enters Tryd.prog 132 := Tryd.call132
theorem en_133 : Enters Tryd.prog 133 := Tryd.call133
theorem en_134 : Enters Tryd.prog 134 := Tryd.call134
theorem en_135 : Enters Tryd.prog 135 := Tryd.call135
theorem en_136 : Enters Tryd.prog 136 := Tryd.call136
theorem en_137 : Enters Tryd.prog 137 := Tryd.call137
theorem en_138 : Enters Tryd.prog 138 := Tryd.call138
theorem en_139 : Enters Tryd.prog 139 := Tryd.call139
theorem en_151 : Enters Tryd.prog 151 := Tryd.call151
theorem en_152 : Enters Tryd.prog 152 := Tryd.call152
theorem en_153 : Enters Tryd.prog 153 := Tryd.call153
theorem en_156 : Enters Tryd.prog 156 := Tryd.call156
theorem en_158 : Enters Tryd.prog 158 := Tryd.call158
theorem en_169 : Enters Tryd.prog 169 := Tryd.call169
end Go.Proofs.YtaihhpnfelobjaaDoorR
