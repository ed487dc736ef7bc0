/- The reference's tables; what it reads a text as; the word of a value. -/
import Derived.Test.YtpjoglnopfmjfaaDoorNu
import Derived.Test.YtpjoglnopfmjfaaDoorNtc
namespace Go.Proofs.YtpjoglnopfmjfaaDoor
open Go Go.RowKit

abbrev keyCells : List Value := [.int .i64 0, .string ⟨#[65, 66, 79, 82, 84]⟩, .int .i64 1, .string ⟨#[67, 79, 77, 77, 73, 84]⟩, .int .i64 2, .string ⟨#[81, 85, 79, 82, 85, 77, 95, 82, 69, 65, 83, 83, 73, 71, 78, 77, 69, 78, 84]⟩, .int .i64 3, .string ⟨#[83, 78, 65, 80, 83, 72, 79, 84, 95, 72, 69, 65, 68, 69, 82]⟩, .int .i64 4, .string ⟨#[83, 78, 65, 80, 83, 72, 79, 84, 95, 70, 79, 79, 84, 69, 82]⟩, .int .i64 5, .string ⟨#[75, 82, 65, 70, 84, 95, 86, 69, 82, 83, 73, 79, 78]⟩, .int .i64 6, .string ⟨#[75, 82, 65, 70, 84, 95, 86, 79, 84, 69, 82, 83]⟩]
abbrev cfgCells : List Value := [.int .i64 1, .string ⟨#[68, 89, 78, 65, 77, 73, 67, 95, 84, 79, 80, 73, 67, 95, 67, 79, 78, 70, 73, 71]⟩, .int .i64 2, .string ⟨#[68, 89, 78, 65, 77, 73, 67, 95, 66, 82, 79, 75, 69, 82, 95, 67, 79, 78, 70, 73, 71]⟩, .int .i64 3, .string ⟨#[68, 89, 78, 65, 77, 73, 67, 95, 68, 69, 70, 65, 85, 76, 84, 95, 66, 82, 79, 75, 69, 82, 95, 67, 79, 78, 70, 73, 71]⟩, .int .i64 4, .string ⟨#[83, 84, 65, 84, 73, 67, 95, 66, 82, 79, 75, 69, 82, 95, 67, 79, 78, 70, 73, 71]⟩, .int .i64 5, .string ⟨#[68, 69, 70, 65, 85, 76, 84, 95, 67, 79, 78, 70, 73, 71]⟩, .int .i64 6, .string ⟨#[68, 89, 78, 65, 77, 73, 67, 95, 66, 82, 79, 75, 69, 82, 95, 76, 79, 71, 71, 69, 82, 95, 67, 79, 78, 70, 73, 71]⟩, .int .i64 7, .string ⟨#[67, 76, 73, 69, 78, 84, 95, 77, 69, 84, 82, 73, 67, 83, 95, 67, 79, 78, 70, 73, 71]⟩, .int .i64 8, .string ⟨#[71, 82, 79, 85, 80, 95, 67, 79, 78, 70, 73, 71]⟩]
set_option maxHeartbeats 800000 in
theorem keyTable (w : World) : Calls Tryd.prog 9 #[] w fun e w' => e = .returned (.slice (some ⟨w.heap.size, 0, none⟩) 7 7) ∧ Blk w' w.heap.size keyCells 47 ∧ Below w.heap.size w w' := by
  go_enter Tryd.func9, Tryd.ntmps9
  go_wp2
  go_ret
  exact ⟨rfl, Blk.alloc_new w keyCells 47, (Below.refl _ _).alloc (Nat.le_refl _) _⟩
set_option maxHeartbeats 800000 in
theorem cfgTable (w : World) : Calls Tryd.prog 11 #[] w fun e w' => e = .returned (.slice (some ⟨w.heap.size, 0, none⟩) 8 8) ∧ Blk w' w.heap.size cfgCells 47 ∧ Below w.heap.size w w' := by
  go_enter Tryd.func11, Tryd.ntmps11
  go_wp2
  go_ret
  exact ⟨rfl, Blk.alloc_new w cfgCells 47, (Below.refl _ _).alloc (Nat.le_refl _) _⟩
def cfgWord (n : Int) : Option (List UInt8) := if n = 1 then some [68, 89, 78, 65, 77, 73, 67, 95, 84, 79, 80, 73, 67, 95, 67, 79, 78, 70, 73, 71] else if n = 2 then some [68, 89, 78, 65, 77, 73, 67, 95, 66, 82, 79, 75, 69, 82, 95, 67, 79, 78, 70, 73, 71] else if n = 3 then some [68, 89, 78, 65, 77, 73, 67, 95, 68, 69, 70, 65, 85, 76, 84, 95, 66, 82, 79, 75, 69, 82, 95, 67, 79, 78, 70, 73, 71] else if n = 4 then some [83, 84, 65, 84, 73, 67, 95, 66, 82, 79, 75, 69, 82, 95, 67, 79, 78, 70, 73, 71] else if n = 5 then some [68, 69, 70, 65, 85, 76, 84, 95, 67, 79, 78, 70, 73, 71] else if n = 6 then some [68, 89, 78, 65, 77, 73, 67, 95, 66, 82, 79, 75, 69, 82, 95, 76, 79, 71, 71, 69, 82, 95, 67, 79, 78, 70, 73, 71] else if n = 7 then some [67, 76, 73, 69, 78, 84, 95, 77, 69, 84, 82, 73, 67, 83, 95, 67, 79, 78, 70, 73, 71] else if n = 8 then some [71, 82, 79, 85, 80, 95, 67, 79, 78, 70, 73, 71] else none
def wordOut (o : Option (List UInt8)) : Value := match o with
  | some x => .tuple #[.string ⟨x.toArray⟩, .bool true]
  | none => .tuple #[.string ⟨#[]⟩, .bool false]
set_option maxRecDepth 100000 in
set_option maxHeartbeats 3200000 in
theorem wordCfg (n : Int) (b : Nat) (w : World) (hB : Blk w b cfgCells 47) (hb : b < w.heap.size) : Calls Tryd.prog 10 #[.slice (some ⟨b, 0, none⟩) 8 8, .int .i64 n] w fun e w' => e = .returned (wordOut (cfgWord n)) ∧ Below w.heap.size w w' := by
  have hb0 := Below.refl w.heap.size w
  have HB := Lib.hid hB
  have m0 := hB.cell_some (i := 0) rfl
  have m1 := hB.cell_some (i := 1) rfl
  clear hB
  go_enter Tryd.func10, Tryd.ntmps10
  go_wp2_with fail
  refine wp_loop_rounds 9 ?_
  rw [rounds_succ]
  by_cases h0 : n = 1
  · subst h0
    have e : cfgWord 1 = some [68, 89, 78, 65, 77, 73, 67, 95, 84, 79, 80, 73, 67, 95, 67, 79, 78, 70, 73, 71] := by decide
    have E := Lib.hid e
    clear e
    go_wp2
    go_ret2
    exact ⟨by rw [E.out]; rfl, hb0.alloc hb0.size _⟩
  go_wp2_with fail
  have hb1 := hb0.alloc hb0.size (.cells #[.int .i64 1, .string ⟨#[68, 89, 78, 65, 77, 73, 67, 95, 84, 79, 80, 73, 67, 95, 67, 79, 78, 70, 73, 71]⟩] 47)
  generalize w.alloc (.cells #[.int .i64 1, .string ⟨#[68, 89, 78, 65, 77, 73, 67, 95, 84, 79, 80, 73, 67, 95, 67, 79, 78, 70, 73, 71]⟩] 47) = w1 at *
  have m2 := (HB.out.below hb1 hb).cell_some (i := 2) rfl
  have m3 := (HB.out.below hb1 hb).cell_some (i := 3) rfl
  clear m0 m1 hb0
  rw [rounds_succ]
  by_cases h1 : n = 2
  · subst h1
    have e : cfgWord 2 = some [68, 89, 78, 65, 77, 73, 67, 95, 66, 82, 79, 75, 69, 82, 95, 67, 79, 78, 70, 73, 71] := by decide
    have E := Lib.hid e
    clear e
    go_wp2
    go_ret2
    exact ⟨by rw [E.out]; rfl, hb1.alloc hb1.size _⟩
  go_wp2_with fail
  have hb2 := hb1.alloc hb1.size (.cells #[.int .i64 2, .string ⟨#[68, 89, 78, 65, 77, 73, 67, 95, 66, 82, 79, 75, 69, 82, 95, 67, 79, 78, 70, 73, 71]⟩] 47)
  generalize w1.alloc (.cells #[.int .i64 2, .string ⟨#[68, 89, 78, 65, 77, 73, 67, 95, 66, 82, 79, 75, 69, 82, 95, 67, 79, 78, 70, 73, 71]⟩] 47) = w2 at *
  have m4 := (HB.out.below hb2 hb).cell_some (i := 4) rfl
  have m5 := (HB.out.below hb2 hb).cell_some (i := 5) rfl
  clear m2 m3 hb1
  rw [rounds_succ]
  by_cases h2 : n = 3
  · subst h2
    have e : cfgWord 3 = some [68, 89, 78, 65, 77, 73, 67, 95, 68, 69, 70, 65, 85, 76, 84, 95, 66, 82, 79, 75, 69, 82, 95, 67, 79, 78, 70, 73, 71] := by decide
    have E := Lib.hid e
    clear e
    go_wp2
    go_ret2
    exact ⟨by rw [E.out]; rfl, hb2.alloc hb2.size _⟩
  go_wp2_with fail
  have hb3 := hb2.alloc hb2.size (.cells #[.int .i64 3, .string ⟨#[68, 89, 78, 65, 77, 73, 67, 95, 68, 69, 70, 65, 85, 76, 84, 95, 66, 82, 79, 75, 69, 82, 95, 67, 79, 78, 70, 73, 71]⟩] 47)
  generalize w2.alloc (.cells #[.int .i64 3, .string ⟨#[68, 89, 78, 65, 77, 73, 67, 95, 68, 69, 70, 65, 85, 76, 84, 95, 66, 82, 79, 75, 69, 82, 95, 67, 79, 78, 70, 73, 71]⟩] 47) = w3 at *
  have m6 := (HB.out.below hb3 hb).cell_some (i := 6) rfl
  have m7 := (HB.out.below hb3 hb).cell_some (i := 7) rfl
  clear m4 m5 hb2
  rw [rounds_succ]
  by_cases h3 : n = 4
  · subst h3
    have e : cfgWord 4 = some [83, 84, 65, 84, 73, 67, 95, 66, 82, 79, 75, 69, 82, 95, 67, 79, 78, 70, 73, 71] := by decide
    have E := Lib.hid e
    clear e
    go_wp2
    go_ret2
    exact ⟨by rw [E.out]; rfl, hb3.alloc hb3.size _⟩
  go_wp2_with fail
  have hb4 := hb3.alloc hb3.size (.cells #[.int .i64 4, .string ⟨#[83, 84, 65, 84, 73, 67, 95, 66, 82, 79, 75, 69, 82, 95, 67, 79, 78, 70, 73, 71]⟩] 47)
  generalize w3.alloc (.cells #[.int .i64 4, .string ⟨#[83, 84, 65, 84, 73, 67, 95, 66, 82, 79, 75, 69, 82, 95, 67, 79, 78, 70, 73, 71]⟩] 47) = w4 at *
  have m8 := (HB.out.below hb4 hb).cell_some (i := 8) rfl
  have m9 := (HB.out.below hb4 hb).cell_some (i := 9) rfl
  clear m6 m7 hb3
  rw [rounds_succ]
  by_cases h4 : n = 5
  · subst h4
    have e : cfgWord 5 = some [68, 69, 70, 65, 85, 76, 84, 95, 67, 79, 78, 70, 73, 71] := by decide
    have E := Lib.hid e
    clear e
    go_wp2
    go_ret2
    exact ⟨by rw [E.out]; rfl, hb4.alloc hb4.size _⟩
  go_wp2_with fail
  have hb5 := hb4.alloc hb4.size (.cells #[.int .i64 5, .string ⟨#[68, 69, 70, 65, 85, 76, 84, 95, 67, 79, 78, 70, 73, 71]⟩] 47)
  generalize w4.alloc (.cells #[.int .i64 5, .string ⟨#[68, 69, 70, 65, 85, 76, 84, 95, 67, 79, 78, 70, 73, 71]⟩] 47) = w5 at *
  have m10 := (HB.out.below hb5 hb).cell_some (i := 10) rfl
  have m11 := (HB.out.below hb5 hb).cell_some (i := 11) rfl
  clear m8 m9 hb4
  rw [rounds_succ]
  by_cases h5 : n = 6
  · subst h5
    have e : cfgWord 6 = some [68, 89, 78, 65, 77, 73, 67, 95, 66, 82, 79, 75, 69, 82, 95, 76, 79, 71, 71, 69, 82, 95, 67, 79, 78, 70, 73, 71] := by decide
    have E := Lib.hid e
    clear e
    go_wp2
    go_ret2
    exact ⟨by rw [E.out]; rfl, hb5.alloc hb5.size _⟩
  go_wp2_with fail
  have hb6 := hb5.alloc hb5.size (.cells #[.int .i64 6, .string ⟨#[68, 89, 78, 65, 77, 73, 67, 95, 66, 82, 79, 75, 69, 82, 95, 76, 79, 71, 71, 69, 82, 95, 67, 79, 78, 70, 73, 71]⟩] 47)
  generalize w5.alloc (.cells #[.int .i64 6, .string ⟨#[68, 89, 78, 65, 77, 73, 67, 95, 66, 82, 79, 75, 69, 82, 95, 76, 79, 71, 71, 69, 82, 95, 67, 79, 78, 70, 73, 71]⟩] 47) = w6 at *
  have m12 := (HB.out.below hb6 hb).cell_some (i := 12) rfl
  have m13 := (HB.out.below hb6 hb).cell_some (i := 13) rfl
  clear m10 m11 hb5
  rw [rounds_succ]
  by_cases h6 : n = 7
  · subst h6
    have e : cfgWord 7 = some [67, 76, 73, 69, 78, 84, 95, 77, 69, 84, 82, 73, 67, 83, 95, 67, 79, 78, 70, 73, 71] := by decide
    have E := Lib.hid e
    clear e
    go_wp2
    go_ret2
    exact ⟨by rw [E.out]; rfl, hb6.alloc hb6.size _⟩
  go_wp2_with fail
  have hb7 := hb6.alloc hb6.size (.cells #[.int .i64 7, .string ⟨#[67, 76, 73, 69, 78, 84, 95, 77, 69, 84, 82, 73, 67, 83, 95, 67, 79, 78, 70, 73, 71]⟩] 47)
  generalize w6.alloc (.cells #[.int .i64 7, .string ⟨#[67, 76, 73, 69, 78, 84, 95, 77, 69, 84, 82, 73, 67, 83, 95, 67, 79, 78, 70, 73, 71]⟩] 47) = w7 at *
  have m14 := (HB.out.below hb7 hb).cell_some (i := 14) rfl
  have m15 := (HB.out.below hb7 hb).cell_some (i := 15) rfl
  clear m12 m13 hb6
  rw [rounds_succ]
  by_cases h7 : n = 8
  · subst h7
    have e : cfgWord 8 = some [71, 82, 79, 85, 80, 95, 67, 79, 78, 70, 73, 71] := by decide
    have E := Lib.hid e
    clear e
    go_wp2
    go_ret2
    exact ⟨by rw [E.out]; rfl, hb7.alloc hb7.size _⟩
  go_wp2_with fail
  have hb8 := hb7.alloc hb7.size (.cells #[.int .i64 8, .string ⟨#[71, 82, 79, 85, 80, 95, 67, 79, 78, 70, 73, 71]⟩] 47)
  generalize w7.alloc (.cells #[.int .i64 8, .string ⟨#[71, 82, 79, 85, 80, 95, 67, 79, 78, 70, 73, 71]⟩] 47) = w8 at *
  have m16 := (HB.out.below hb8 hb).cell_some (i := 0) rfl
  have m17 := (HB.out.below hb8 hb).cell_some (i := 1) rfl
  clear m14 m15 hb7
  rw [rounds_succ]
  have e : cfgWord n = none := by simp [cfgWord, h0, h1, h2, h3, h4, h5, h6, h7]
  have E := Lib.hid e
  clear e
  go_wp2
  go_ret2
  exact ⟨by rw [E.out]; rfl, hb8⟩
end Go.Proofs.YtpjoglnopfmjfaaDoor
