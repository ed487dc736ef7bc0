/- The kinds of fields, each with the function that writes it, at this program. -/
import Derived.Test.YtdiemlkpboahgaaAppc
import Derived.Test.YtdiemlkpboahgaaKt
namespace Go.Proofs.Ytdiemlkpboahgaa
open Go Go.RowKit

theorem kok2 {N lo t a b : Nat} {x y : Value} (h : (a ≠ 1 ∧ (a < lo ∨ (N ≤ a ∧ a < t))) ∧ (b ≠ 1 ∧ (b < lo ∨ (N ≤ b ∧ b < t)))) : KOK N lo t [(a, x), (b, y)] := by
  intro p hp
  simp only [List.mem_cons, List.not_mem_nil, or_false] at hp
  rcases hp with rfl | rfl
  · exact h.1
  · exact h.2
theorem kok1 {N lo t a : Nat} {x : Value} (h : a ≠ 1 ∧ (a < lo ∨ (N ≤ a ∧ a < t))) : KOK N lo t [(a, x)] := by
  intro p hp
  simp only [List.mem_cons, List.not_mem_nil, or_false] at hp
  subst hp
  exact h
theorem mem2a {p q : Nat × Value} : p ∈ [p, q] := List.mem_cons_self ..
theorem mem2b {p q : Nat × Value} : q ∈ [p, q] := List.mem_cons_of_mem _ (List.mem_cons_self ..)
theorem mem1a {p : Nat × Value} : p ∈ [p] := List.mem_cons_self ..

theorem str_size (l : List UInt8) : (ByteArray.mk l.toArray).size = l.length := by simp [ByteArray.size]
theorem str_data (l : List UInt8) : (ByteArray.mk l.toArray).data.toList = l := by simp
theorem cell_eq {w : World} {ad : Addr} {x y : Value} (h : w.cell? ad = some x) (h' : w.cell? ad = some y) : x = y := Option.some.inj (h.symm.trans h')

theorem leaf_i8 (ver : Int) (flex : Bool) : LeafOK Try.prog ver flex 54 .i8 := by
  intro w0 b o x v hr hc
  cases v <;> simp only [RepLeaf] at hr <;> try exact hr.elim
  obtain ⟨h1, h2, h3⟩ := hr
  obtain rfl := cell_eq h1 hc
  exact (appendInt8 _ h2 h3).at
theorem leaf_i16 (ver : Int) (flex : Bool) : LeafOK Try.prog ver flex 57 .i16 := by
  intro w0 b o x v hr hc
  cases v <;> simp only [RepLeaf] at hr <;> try exact hr.elim
  obtain ⟨h1, h2, h3⟩ := hr
  obtain rfl := cell_eq h1 hc
  exact (appendInt16 _ h2 h3).at
theorem leaf_i32 (ver : Int) (flex : Bool) : LeafOK Try.prog ver flex 53 .i32 := by
  intro w0 b o x v hr hc
  cases v <;> simp only [RepLeaf] at hr <;> try exact hr.elim
  obtain ⟨h1, h2, h3⟩ := hr
  obtain rfl := cell_eq h1 hc
  exact (appendInt32 _ h2 h3).at
theorem leaf_u16 (ver : Int) (flex : Bool) : LeafOK Try.prog ver flex 77 .u16 := by
  intro w0 b o x v hr hc
  cases v <;> simp only [RepLeaf] at hr <;> try exact hr.elim
  obtain ⟨h1, h2, h3⟩ := hr
  obtain rfl := cell_eq h1 hc
  exact (appendUint16 _ h2 h3).at
theorem leaf_i64 (ver : Int) (flex : Bool) : LeafOK Try.prog ver flex 52 .i64 := by
  intro w0 b o x v hr hc
  cases v <;> simp only [RepLeaf] at hr <;> try exact hr.elim
  obtain rfl := cell_eq hr hc
  exact (appendInt64 _).at
theorem leaf_bool (ver : Int) (flex : Bool) : LeafOK Try.prog ver flex 70 .bool := by
  intro w0 b o x v hr hc
  cases v <;> simp only [RepLeaf] at hr <;> try exact hr.elim
  obtain rfl := cell_eq hr hc
  exact (appendBool _).at
theorem leaf_str_false (ver : Int) : LeafOK Try.prog ver false 73 .str := by
  intro w0 b o x v hr hc
  cases v <;> simp only [RepLeaf] at hr <;> try exact hr.elim
  rename_i l
  obtain ⟨h1, h2⟩ := hr
  obtain rfl := cell_eq h1 hc
  have h := (appendString ⟨l.toArray⟩ (by rw [str_size]; simp [strMax] at h2; omega)).at (w0 := w0)
  rw [str_size, str_data] at h
  exact h
theorem leaf_str_true (ver : Int) : LeafOK Try.prog ver true 72 .str := by
  intro w0 b o x v hr hc
  cases v <;> simp only [RepLeaf] at hr <;> try exact hr.elim
  rename_i l
  obtain ⟨h1, h2⟩ := hr
  obtain rfl := cell_eq h1 hc
  have h := (appendCompactString ⟨l.toArray⟩ (by rw [str_size]; simp [strMax] at h2; omega)).at (w0 := w0)
  rw [str_size, str_data] at h
  exact h
theorem leaf_bytes_false (ver : Int) : LeafOK Try.prog ver false 76 .bytes := by
  intro w0 b o x v hr hc
  cases v <;> simp only [RepLeaf] at hr <;> try exact hr.elim
  rename_i l
  obtain ⟨⟨y, h1, h3⟩, h2⟩ := hr
  obtain rfl := cell_eq h1 hc
  intro w v bs hb ho hl
  exact appendBytes l (by omega) _ w0.heap.size w v bs (h3.rl.below hb) ho hb.size hl
theorem tags_none : TagsOK noTags Try.prog 59 60 := by
  rintro w0 b o l ⟨rfl, hc⟩
  have hlt := World.block_lt_of_cell? w0 _ hc
  refine ⟨by simp, fun w hb => tagsLen0 _ w ((hb.cell hlt).trans hc), fun w v bs hb ho hl => ?_⟩
  have h := appendEach0 ⟨b, o, none⟩ w0.heap.size w v bs ((hb.cell hlt).trans hc) ho hb.size
  simpa [apTags] using h
theorem uvOK (n : Nat) (h : n ≤ 4294967295) : AppC Try.prog 58 (.int .u32 n) (uv n) := appendUvarint n h
theorem en_52 : Enters Try.prog 52 := Try.call52
theorem en_53 : Enters Try.prog 53 := Try.call53
theorem en_54 : Enters Try.prog 54 := Try.call54
theorem en_55 : Enters Try.prog 55 := Try.call55
theorem en_57 : Enters Try.prog 57 := Try.call57
theorem en_58 : Enters Try.prog 58 := Try.call58
theorem en_59 : Enters Try.prog 59 := Try.call59
theorem en_60 : Enters Try.prog 60 := Try.call60
theorem en_70 : Enters Try.prog 70 := Try.call70
theorem en_72 : Enters Try.prog 72 := Try.call72
theorem en_73 : Enters Try.prog 73 := Try.call73
theorem en_74 : Enters Try.prog 74 := Try.call74
theorem en_75 : Enters Try.prog 75 := Try.call75
theorem en_76 : Enters Try.prog 76 := Try.call76
theorem en_77 : Enters Try.prog 77 := Try.call77
theorem en_78 : Enters Try.prog 78 := Try.call78
theorem en_79 : Enters Try.prog 79 := Try.call79
theorem en_80 : Enters Try.prog 80 := Try.call80
theorem en_88 : Enters Try.prog 88 := Try.call88
end Go.Proofs.Ytdiemlkpboahgaa
