/- What the reference writes of a GroupMetadataValue is read and written again. Printed by againgen.py. -/
import Derived.Test.YtkhpglongkhbjaaGreatDoorRMe
import Derived.Test.YtkhpglongkhbjaaGreatDoorRMh
import Derived.Test.YtkhpglongkhbjaaGreatDoorRReadA
namespace Go.Proofs.YtkhpglongkhbjaaGreatDoorR.anyGroupMetadataValue
open Go Go.RowKit
set_option linter.unusedVariables false
def fs13 : PFs := (.cons 8 0 (-1) (-1) (-1) 0 0 .nil (.cons 8 3 (-1) 3 (-1) 0 0 .nil (.cons 8 0 (-1) (-1) (-1) 0 0 .nil (.cons 8 0 (-1) (-1) (-1) 0 0 .nil (.cons 3 1 (-1) (-1) (-1) (-1) 0 .nil (.cons 3 0 (-1) (-1) (-1) 0 0 .nil (.cons 9 0 (-1) (-1) (-1) 0 0 .nil (.cons 9 0 (-1) (-1) (-1) 0 0 .nil .nil))))))))
def fs6 : PFs := (.cons 8 0 (-1) (-1) (-1) 0 0 .nil (.cons 3 0 (-1) (-1) (-1) 0 0 .nil (.cons 8 0 (-1) 0 (-1) 0 0 .nil (.cons 8 0 (-1) 0 (-1) 0 0 .nil (.cons 4 2 (-1) (-1) (-1) (-1) 0 .nil (.cons 11 0 (-1) (-1) (-1) 0 10 fs13 .nil))))))
set_option maxRecDepth 100000 in
set_option maxHeartbeats 1600000 in
theorem gives13 : GivesF 13 fs13 := by
  intro w0
  have hbt := Below.refl w0.heap.size w0
  go_enter Tryz.func13, Tryz.ntmps13
  go_wp2_with fail
  have hB := Blk.alloc_new w0 [.int .i64 8, .int .i64 0, .int .i64 (-1), .int .i64 (-1), .int .i64 (-1), .int .i64 0, .int .i64 0, .slice none 0 0, .int .i64 8, .int .i64 3, .int .i64 (-1), .int .i64 3, .int .i64 (-1), .int .i64 0, .int .i64 0, .slice none 0 0, .int .i64 8, .int .i64 0, .int .i64 (-1), .int .i64 (-1), .int .i64 (-1), .int .i64 0, .int .i64 0, .slice none 0 0, .int .i64 8, .int .i64 0, .int .i64 (-1), .int .i64 (-1), .int .i64 (-1), .int .i64 0, .int .i64 0, .slice none 0 0, .int .i64 3, .int .i64 1, .int .i64 (-1), .int .i64 (-1), .int .i64 (-1), .int .i64 (-1), .int .i64 0, .slice none 0 0, .int .i64 3, .int .i64 0, .int .i64 (-1), .int .i64 (-1), .int .i64 (-1), .int .i64 0, .int .i64 0, .slice none 0 0, .int .i64 9, .int .i64 0, .int .i64 (-1), .int .i64 (-1), .int .i64 (-1), .int .i64 0, .int .i64 0, .slice none 0 0, .int .i64 9, .int .i64 0, .int .i64 (-1), .int .i64 (-1), .int .i64 (-1), .int .i64 0, .int .i64 0, .slice none 0 0] 51
  have hbf := (Below.refl w0.heap.size w0).alloc (Nat.le_refl _) (.cells [.int .i64 8, .int .i64 0, .int .i64 (-1), .int .i64 (-1), .int .i64 (-1), .int .i64 0, .int .i64 0, .slice none 0 0, .int .i64 8, .int .i64 3, .int .i64 (-1), .int .i64 3, .int .i64 (-1), .int .i64 0, .int .i64 0, .slice none 0 0, .int .i64 8, .int .i64 0, .int .i64 (-1), .int .i64 (-1), .int .i64 (-1), .int .i64 0, .int .i64 0, .slice none 0 0, .int .i64 8, .int .i64 0, .int .i64 (-1), .int .i64 (-1), .int .i64 (-1), .int .i64 0, .int .i64 0, .slice none 0 0, .int .i64 3, .int .i64 1, .int .i64 (-1), .int .i64 (-1), .int .i64 (-1), .int .i64 (-1), .int .i64 0, .slice none 0 0, .int .i64 3, .int .i64 0, .int .i64 (-1), .int .i64 (-1), .int .i64 (-1), .int .i64 0, .int .i64 0, .slice none 0 0, .int .i64 9, .int .i64 0, .int .i64 (-1), .int .i64 (-1), .int .i64 (-1), .int .i64 0, .int .i64 0, .slice none 0 0, .int .i64 9, .int .i64 0, .int .i64 (-1), .int .i64 (-1), .int .i64 (-1), .int .i64 0, .int .i64 0, .slice none 0 0].toArray 51)
  have hbt2 := hbt.trans (hbf.mono hbt.size)
  have hzz : w0.heap.size < (w0.alloc (.cells [.int .i64 8, .int .i64 0, .int .i64 (-1), .int .i64 (-1), .int .i64 (-1), .int .i64 0, .int .i64 0, .slice none 0 0, .int .i64 8, .int .i64 3, .int .i64 (-1), .int .i64 3, .int .i64 (-1), .int .i64 0, .int .i64 0, .slice none 0 0, .int .i64 8, .int .i64 0, .int .i64 (-1), .int .i64 (-1), .int .i64 (-1), .int .i64 0, .int .i64 0, .slice none 0 0, .int .i64 8, .int .i64 0, .int .i64 (-1), .int .i64 (-1), .int .i64 (-1), .int .i64 0, .int .i64 0, .slice none 0 0, .int .i64 3, .int .i64 1, .int .i64 (-1), .int .i64 (-1), .int .i64 (-1), .int .i64 (-1), .int .i64 0, .slice none 0 0, .int .i64 3, .int .i64 0, .int .i64 (-1), .int .i64 (-1), .int .i64 (-1), .int .i64 0, .int .i64 0, .slice none 0 0, .int .i64 9, .int .i64 0, .int .i64 (-1), .int .i64 (-1), .int .i64 (-1), .int .i64 0, .int .i64 0, .slice none 0 0, .int .i64 9, .int .i64 0, .int .i64 (-1), .int .i64 (-1), .int .i64 (-1), .int .i64 0, .int .i64 0, .slice none 0 0].toArray 51)).heap.size := by simp
  have hR : RepF (w0.alloc (.cells [.int .i64 8, .int .i64 0, .int .i64 (-1), .int .i64 (-1), .int .i64 (-1), .int .i64 0, .int .i64 0, .slice none 0 0, .int .i64 8, .int .i64 3, .int .i64 (-1), .int .i64 3, .int .i64 (-1), .int .i64 0, .int .i64 0, .slice none 0 0, .int .i64 8, .int .i64 0, .int .i64 (-1), .int .i64 (-1), .int .i64 (-1), .int .i64 0, .int .i64 0, .slice none 0 0, .int .i64 8, .int .i64 0, .int .i64 (-1), .int .i64 (-1), .int .i64 (-1), .int .i64 0, .int .i64 0, .slice none 0 0, .int .i64 3, .int .i64 1, .int .i64 (-1), .int .i64 (-1), .int .i64 (-1), .int .i64 (-1), .int .i64 0, .slice none 0 0, .int .i64 3, .int .i64 0, .int .i64 (-1), .int .i64 (-1), .int .i64 (-1), .int .i64 0, .int .i64 0, .slice none 0 0, .int .i64 9, .int .i64 0, .int .i64 (-1), .int .i64 (-1), .int .i64 (-1), .int .i64 0, .int .i64 0, .slice none 0 0, .int .i64 9, .int .i64 0, .int .i64 (-1), .int .i64 (-1), .int .i64 (-1), .int .i64 0, .int .i64 0, .slice none 0 0].toArray 51)).heap.size (w0.alloc (.cells [.int .i64 8, .int .i64 0, .int .i64 (-1), .int .i64 (-1), .int .i64 (-1), .int .i64 0, .int .i64 0, .slice none 0 0, .int .i64 8, .int .i64 3, .int .i64 (-1), .int .i64 3, .int .i64 (-1), .int .i64 0, .int .i64 0, .slice none 0 0, .int .i64 8, .int .i64 0, .int .i64 (-1), .int .i64 (-1), .int .i64 (-1), .int .i64 0, .int .i64 0, .slice none 0 0, .int .i64 8, .int .i64 0, .int .i64 (-1), .int .i64 (-1), .int .i64 (-1), .int .i64 0, .int .i64 0, .slice none 0 0, .int .i64 3, .int .i64 1, .int .i64 (-1), .int .i64 (-1), .int .i64 (-1), .int .i64 (-1), .int .i64 0, .slice none 0 0, .int .i64 3, .int .i64 0, .int .i64 (-1), .int .i64 (-1), .int .i64 (-1), .int .i64 0, .int .i64 0, .slice none 0 0, .int .i64 9, .int .i64 0, .int .i64 (-1), .int .i64 (-1), .int .i64 (-1), .int .i64 0, .int .i64 0, .slice none 0 0, .int .i64 9, .int .i64 0, .int .i64 (-1), .int .i64 (-1), .int .i64 (-1), .int .i64 0, .int .i64 0, .slice none 0 0].toArray 51)) fs13 (.slice (some ⟨w0.heap.size, 0, none⟩) 8 8) := ⟨some ⟨w0.heap.size, 0, none⟩, 8, rfl, by decide, fun _ => ⟨_, 0, rfl, hzz, ⟨⟨hB.cell_some rfl, hB.cell_some rfl, hB.cell_some rfl, hB.cell_some rfl, hB.cell_some rfl, hB.cell_some rfl, hB.cell_some rfl⟩, ⟨_, hB.cell_some rfl, ⟨none, 0, rfl, by decide, fun h => absurd rfl h⟩⟩, ⟨⟨hB.cell_some rfl, hB.cell_some rfl, hB.cell_some rfl, hB.cell_some rfl, hB.cell_some rfl, hB.cell_some rfl, hB.cell_some rfl⟩, ⟨_, hB.cell_some rfl, ⟨none, 0, rfl, by decide, fun h => absurd rfl h⟩⟩, ⟨⟨hB.cell_some rfl, hB.cell_some rfl, hB.cell_some rfl, hB.cell_some rfl, hB.cell_some rfl, hB.cell_some rfl, hB.cell_some rfl⟩, ⟨_, hB.cell_some rfl, ⟨none, 0, rfl, by decide, fun h => absurd rfl h⟩⟩, ⟨⟨hB.cell_some rfl, hB.cell_some rfl, hB.cell_some rfl, hB.cell_some rfl, hB.cell_some rfl, hB.cell_some rfl, hB.cell_some rfl⟩, ⟨_, hB.cell_some rfl, ⟨none, 0, rfl, by decide, fun h => absurd rfl h⟩⟩, ⟨⟨hB.cell_some rfl, hB.cell_some rfl, hB.cell_some rfl, hB.cell_some rfl, hB.cell_some rfl, hB.cell_some rfl, hB.cell_some rfl⟩, ⟨_, hB.cell_some rfl, ⟨none, 0, rfl, by decide, fun h => absurd rfl h⟩⟩, ⟨⟨hB.cell_some rfl, hB.cell_some rfl, hB.cell_some rfl, hB.cell_some rfl, hB.cell_some rfl, hB.cell_some rfl, hB.cell_some rfl⟩, ⟨_, hB.cell_some rfl, ⟨none, 0, rfl, by decide, fun h => absurd rfl h⟩⟩, ⟨⟨hB.cell_some rfl, hB.cell_some rfl, hB.cell_some rfl, hB.cell_some rfl, hB.cell_some rfl, hB.cell_some rfl, hB.cell_some rfl⟩, ⟨_, hB.cell_some rfl, ⟨none, 0, rfl, by decide, fun h => absurd rfl h⟩⟩, ⟨⟨hB.cell_some rfl, hB.cell_some rfl, hB.cell_some rfl, hB.cell_some rfl, hB.cell_some rfl, hB.cell_some rfl, hB.cell_some rfl⟩, ⟨_, hB.cell_some rfl, ⟨none, 0, rfl, by decide, fun h => absurd rfl h⟩⟩, trivial⟩⟩⟩⟩⟩⟩⟩⟩⟩⟩
  have Z := Lib.hid (And.intro hR hbt2)
  clear hB hR hbf hbt hbt2 hzz
  go_ret
  exact ⟨_, rfl, Z.out.1, Z.out.2⟩
set_option maxRecDepth 100000 in
set_option maxHeartbeats 1600000 in
theorem gives6 : GivesM 6 fs6 4 := by
  intro w0
  have hM := Blk.alloc_new w0 [.slice none 0 0, .int .i64 0] 28
  have hbt := (Below.refl w0.heap.size w0).alloc (Nat.le_refl _) (.cells #[.slice none 0 0, .int .i64 0] 28)
  have hsz : w0.heap.size + 1 ≤ (w0.alloc (.cells #[.slice none 0 0, .int .i64 0] 28)).heap.size := by simp
  go_enter Tryz.func6, Tryz.ntmps6
  go_wp2_with fail
  refine (gives13 _).mono ?_
  rintro e w1 ⟨v1, rfl, hv1, hb1⟩
  obtain ⟨a1, c1, rfl, -⟩ := id hv1
  have z1 := hb1.size
  have hM := hM.below hb1 (by simp)
  have hsz := Nat.le_trans hsz z1
  have hbt := hbt.trans (hb1.mono (by first | exact Nat.le_refl _ | exact hbt.size | omega))
  clear hb1
  have hB := Blk.alloc_new w1 [.int .i64 8, .int .i64 0, .int .i64 (-1), .int .i64 (-1), .int .i64 (-1), .int .i64 0, .int .i64 0, .slice none 0 0, .int .i64 3, .int .i64 0, .int .i64 (-1), .int .i64 (-1), .int .i64 (-1), .int .i64 0, .int .i64 0, .slice none 0 0, .int .i64 8, .int .i64 0, .int .i64 (-1), .int .i64 0, .int .i64 (-1), .int .i64 0, .int .i64 0, .slice none 0 0, .int .i64 8, .int .i64 0, .int .i64 (-1), .int .i64 0, .int .i64 (-1), .int .i64 0, .int .i64 0, .slice none 0 0, .int .i64 4, .int .i64 2, .int .i64 (-1), .int .i64 (-1), .int .i64 (-1), .int .i64 (-1), .int .i64 0, .slice none 0 0, .int .i64 11, .int .i64 0, .int .i64 (-1), .int .i64 (-1), .int .i64 (-1), .int .i64 0, .int .i64 10, .slice a1 fs13.len c1] 51
  have hbf := (Below.refl w1.heap.size w1).alloc (Nat.le_refl _) (.cells [.int .i64 8, .int .i64 0, .int .i64 (-1), .int .i64 (-1), .int .i64 (-1), .int .i64 0, .int .i64 0, .slice none 0 0, .int .i64 3, .int .i64 0, .int .i64 (-1), .int .i64 (-1), .int .i64 (-1), .int .i64 0, .int .i64 0, .slice none 0 0, .int .i64 8, .int .i64 0, .int .i64 (-1), .int .i64 0, .int .i64 (-1), .int .i64 0, .int .i64 0, .slice none 0 0, .int .i64 8, .int .i64 0, .int .i64 (-1), .int .i64 0, .int .i64 (-1), .int .i64 0, .int .i64 0, .slice none 0 0, .int .i64 4, .int .i64 2, .int .i64 (-1), .int .i64 (-1), .int .i64 (-1), .int .i64 (-1), .int .i64 0, .slice none 0 0, .int .i64 11, .int .i64 0, .int .i64 (-1), .int .i64 (-1), .int .i64 (-1), .int .i64 0, .int .i64 10, .slice a1 fs13.len c1].toArray 51)
  have hbt2 := hbt.trans (hbf.mono hbt.size)
  have hzz : w1.heap.size < (w1.alloc (.cells [.int .i64 8, .int .i64 0, .int .i64 (-1), .int .i64 (-1), .int .i64 (-1), .int .i64 0, .int .i64 0, .slice none 0 0, .int .i64 3, .int .i64 0, .int .i64 (-1), .int .i64 (-1), .int .i64 (-1), .int .i64 0, .int .i64 0, .slice none 0 0, .int .i64 8, .int .i64 0, .int .i64 (-1), .int .i64 0, .int .i64 (-1), .int .i64 0, .int .i64 0, .slice none 0 0, .int .i64 8, .int .i64 0, .int .i64 (-1), .int .i64 0, .int .i64 (-1), .int .i64 0, .int .i64 0, .slice none 0 0, .int .i64 4, .int .i64 2, .int .i64 (-1), .int .i64 (-1), .int .i64 (-1), .int .i64 (-1), .int .i64 0, .slice none 0 0, .int .i64 11, .int .i64 0, .int .i64 (-1), .int .i64 (-1), .int .i64 (-1), .int .i64 0, .int .i64 10, .slice a1 fs13.len c1].toArray 51)).heap.size := by simp
  have hv1 := hv1.up hbf (Nat.le_of_lt hzz)
  have hR : RepF (w1.alloc (.cells [.int .i64 8, .int .i64 0, .int .i64 (-1), .int .i64 (-1), .int .i64 (-1), .int .i64 0, .int .i64 0, .slice none 0 0, .int .i64 3, .int .i64 0, .int .i64 (-1), .int .i64 (-1), .int .i64 (-1), .int .i64 0, .int .i64 0, .slice none 0 0, .int .i64 8, .int .i64 0, .int .i64 (-1), .int .i64 0, .int .i64 (-1), .int .i64 0, .int .i64 0, .slice none 0 0, .int .i64 8, .int .i64 0, .int .i64 (-1), .int .i64 0, .int .i64 (-1), .int .i64 0, .int .i64 0, .slice none 0 0, .int .i64 4, .int .i64 2, .int .i64 (-1), .int .i64 (-1), .int .i64 (-1), .int .i64 (-1), .int .i64 0, .slice none 0 0, .int .i64 11, .int .i64 0, .int .i64 (-1), .int .i64 (-1), .int .i64 (-1), .int .i64 0, .int .i64 10, .slice a1 fs13.len c1].toArray 51)).heap.size (w1.alloc (.cells [.int .i64 8, .int .i64 0, .int .i64 (-1), .int .i64 (-1), .int .i64 (-1), .int .i64 0, .int .i64 0, .slice none 0 0, .int .i64 3, .int .i64 0, .int .i64 (-1), .int .i64 (-1), .int .i64 (-1), .int .i64 0, .int .i64 0, .slice none 0 0, .int .i64 8, .int .i64 0, .int .i64 (-1), .int .i64 0, .int .i64 (-1), .int .i64 0, .int .i64 0, .slice none 0 0, .int .i64 8, .int .i64 0, .int .i64 (-1), .int .i64 0, .int .i64 (-1), .int .i64 0, .int .i64 0, .slice none 0 0, .int .i64 4, .int .i64 2, .int .i64 (-1), .int .i64 (-1), .int .i64 (-1), .int .i64 (-1), .int .i64 0, .slice none 0 0, .int .i64 11, .int .i64 0, .int .i64 (-1), .int .i64 (-1), .int .i64 (-1), .int .i64 0, .int .i64 10, .slice a1 fs13.len c1].toArray 51)) fs6 (.slice (some ⟨w1.heap.size, 0, none⟩) 6 6) := ⟨some ⟨w1.heap.size, 0, none⟩, 6, rfl, by decide, fun _ => ⟨_, 0, rfl, hzz, ⟨⟨hB.cell_some rfl, hB.cell_some rfl, hB.cell_some rfl, hB.cell_some rfl, hB.cell_some rfl, hB.cell_some rfl, hB.cell_some rfl⟩, ⟨_, hB.cell_some rfl, ⟨none, 0, rfl, by decide, fun h => absurd rfl h⟩⟩, ⟨⟨hB.cell_some rfl, hB.cell_some rfl, hB.cell_some rfl, hB.cell_some rfl, hB.cell_some rfl, hB.cell_some rfl, hB.cell_some rfl⟩, ⟨_, hB.cell_some rfl, ⟨none, 0, rfl, by decide, fun h => absurd rfl h⟩⟩, ⟨⟨hB.cell_some rfl, hB.cell_some rfl, hB.cell_some rfl, hB.cell_some rfl, hB.cell_some rfl, hB.cell_some rfl, hB.cell_some rfl⟩, ⟨_, hB.cell_some rfl, ⟨none, 0, rfl, by decide, fun h => absurd rfl h⟩⟩, ⟨⟨hB.cell_some rfl, hB.cell_some rfl, hB.cell_some rfl, hB.cell_some rfl, hB.cell_some rfl, hB.cell_some rfl, hB.cell_some rfl⟩, ⟨_, hB.cell_some rfl, ⟨none, 0, rfl, by decide, fun h => absurd rfl h⟩⟩, ⟨⟨hB.cell_some rfl, hB.cell_some rfl, hB.cell_some rfl, hB.cell_some rfl, hB.cell_some rfl, hB.cell_some rfl, hB.cell_some rfl⟩, ⟨_, hB.cell_some rfl, ⟨none, 0, rfl, by decide, fun h => absurd rfl h⟩⟩, ⟨⟨hB.cell_some rfl, hB.cell_some rfl, hB.cell_some rfl, hB.cell_some rfl, hB.cell_some rfl, hB.cell_some rfl, hB.cell_some rfl⟩, ⟨_, hB.cell_some rfl, hv1⟩, trivial⟩⟩⟩⟩⟩⟩⟩⟩
  have Z := Lib.hid (And.intro hR hbt2)
  have hM2 := hM.alloc (.cells [.int .i64 8, .int .i64 0, .int .i64 (-1), .int .i64 (-1), .int .i64 (-1), .int .i64 0, .int .i64 0, .slice none 0 0, .int .i64 3, .int .i64 0, .int .i64 (-1), .int .i64 (-1), .int .i64 (-1), .int .i64 0, .int .i64 0, .slice none 0 0, .int .i64 8, .int .i64 0, .int .i64 (-1), .int .i64 0, .int .i64 (-1), .int .i64 0, .int .i64 0, .slice none 0 0, .int .i64 8, .int .i64 0, .int .i64 (-1), .int .i64 0, .int .i64 (-1), .int .i64 0, .int .i64 0, .slice none 0 0, .int .i64 4, .int .i64 2, .int .i64 (-1), .int .i64 (-1), .int .i64 (-1), .int .i64 (-1), .int .i64 0, .slice none 0 0, .int .i64 11, .int .i64 0, .int .i64 (-1), .int .i64 (-1), .int .i64 (-1), .int .i64 0, .int .i64 10, .slice a1 fs13.len c1].toArray 51)
  have hMM := Lib.hid hM2
  have m0 := fun o => (hM.alloc o).cell_some (i := 0) rfl
  have m1 := fun o => (hM.alloc o).cell_some (i := 1) rfl
  have f0 := fun o => (hM.alloc o).frozen 0
  have f1 := fun o => (hM.alloc o).frozen 1
  clear hB hR hbf hbt hbt2 hzz hv1 hM hM2
  go_wp2
  have hR := Z.out.1
  have hbt := Z.out.2
  have hR1 := hR.other (i := 0) (v := .slice (some ⟨w1.heap.size, 0, none⟩) 6 6) hMM.out
  have hM1 := hMM.out.set 0 (.slice (some ⟨w1.heap.size, 0, none⟩) 6 6)
  have hR2 := hR1.other (i := 1) (v := .int .i64 4) hM1
  have hM2 := hM1.set 1 (.int .i64 4)
  have hbt2 := (hbt.setCell (p := ⟨w0.heap.size, 0, none⟩) (Nat.le_refl _) (.slice (some ⟨w1.heap.size, 0, none⟩) 6 6)).setCell (p := ⟨w0.heap.size, 1, none⟩) (Nat.le_refl _) (.int .i64 4)
  exact ret_msg (fn := Tryz.f6) (g := w0.heap.size) rfl rfl hM2 rfl ⟨_, rfl, by simpa using hR2, hbt2⟩
theorem fsTag : fs6.noTag := by simp [PFs.noTag, fs13, fs6]
theorem fsOpt : fs6.noOpt := by simp [PFs.noOpt, fs13, fs6]
theorem mcM : ManyCells Tryz.prog 43 8 := ⟨fun w => Tryz.isAgg43 w, ⟨Tryz.t43, _, by kernel_rfl, rfl, rfl, rfl⟩⟩
theorem infoM : (Tryz.prog.info? 43).map (fun i => i.zero) = some (some (.agg [.int .i16 0, .string ⟨#[]⟩, .int .i32 0, .pointer none, .pointer none, .int .i64 0, .slice none 0 0, .map none].toArray)) := by kernel_rfl
theorem allocM (w : World) : (Instr.alloc 43 true (.tuple #[])).run Tryz.prog w = .ok (.pointer (some ⟨w.heap.size, 0, none⟩)) (w.alloc (.cells [.int .i16 0, .string ⟨#[]⟩, .int .i32 0, .pointer none, .pointer none, .int .i64 0, .slice none 0 0, .map none].toArray 43)) := by
  obtain ⟨i, hi, hz⟩ : ∃ i, Tryz.prog.info? 43 = some i ∧ i.zero = some (.agg [.int .i16 0, .string ⟨#[]⟩, .int .i32 0, .pointer none, .pointer none, .int .i64 0, .slice none 0 0, .map none].toArray) := by
    have h := infoM
    cases hx : Tryz.prog.info? 43 with
    | none => rw [hx] at h; cases h
    | some i => rw [hx] at h; exact ⟨i, rfl, by simpa using h⟩
  simp [Instr.alloc, zeroValue, typeInfo, hi, hz, newVar, newRow, Value.cells]
set_option maxHeartbeats 800000 in
theorem defM (w : World) (b : Nat) (h : Blk w b [.int .i16 0, .string ⟨#[]⟩, .int .i32 0, .pointer none, .pointer none, .int .i64 0, .slice none 0 0, .map none] 43) : Calls Tryz.prog 14 #[.pointer (some ⟨b, 0, none⟩)] w fun en w' => en = .returned (.tuple #[]) ∧ Blk w' b [.int .i16 0, .string ⟨#[]⟩, .int .i32 0, .pointer none, .pointer none, .int .i64 (-1), .slice none 0 0, .map none] 43 ∧ Keeps [b] w w' := by
  have m5 := h.cell_some (i := 5) rfl
  have f5 := h.frozen 5
  have HB := Lib.hid h
  clear h
  go_enter Tryz.func14, Tryz.ntmps14
  go_wp2
  go_end0
  have h := HB.out
  exact ⟨rfl, (h.set 5 (.int .i64 (-1))), ((Keeps.refl [b] w).setCell (by simp) _)⟩
theorem newM (w : World) : Calls Tryz.prog 8 #[] w fun e w' => e = .returned (.agg [.int .i16 0, .string ⟨#[]⟩, .int .i32 0, .pointer none, .pointer none, .int .i64 (-1), .slice none 0 0, .map none].toArray) ∧ Below w.heap.size w w' :=
  calls_newK (z := [.int .i16 0, .string ⟨#[]⟩, .int .i32 0, .pointer none, .pointer none, .int .i64 0, .slice none 0 0, .map none]) (C := [.int .i16 0, .string ⟨#[]⟩, .int .i32 0, .pointer none, .pointer none, .int .i64 (-1), .slice none 0 0, .map none]) (n := 8) Tryz.func8 rfl rfl (by decide) rfl Tryz.call14 mcM allocM rfl rfl (by decide) defM w
theorem hasV0 {ver : Int} (h : (-32768) ≤ ver) : hasV (-32768) none ver = true := by simp [hasV, h]
theorem ok (ver : Int) (h0 : 0 ≤ ver) (h1 : ver ≤ 0) : okS ver (hasV 4 none ver) schGroupMetadataValueR = true := by
  have h : ver = 0 := by omega
  rcases h with rfl
  all_goals decide +kernel
theorem fresh : Fresh [.int .i16 0, .string ⟨#[]⟩, .int .i32 0, .pointer none, .pointer none, .int .i64 (-1), .slice none 0 0, .map none] 0 schGroupMetadataValueR := by
  unfold schGroupMetadataValueR
  simp only [Fresh]
  (repeat' apply And.intro) <;> first | rfl | trivial | exact Nat.le_of_ble_eq_true rfl
set_option maxHeartbeats 1600000 in
theorem readF (E : Value) (w : World) (b : Nat) (src : Value) (bs : List UInt8) (hlow : ∀ n r, rdInt 2 32768 bs = some (n, r) → (-32768) ≤ n) (hB : Blk w b [.int .i16 0, .string ⟨#[]⟩, .int .i32 0, .pointer none, .pointer none, .int .i64 (-1), .slice none 0 0, .map none] 43) (hs : RB [b] w src bs) (hbs : bs.length ≤ lim) (hE : w.cell? ⟨1, 0, none⟩ = some E) (hgE : 1 ≠ b) :
    Calls Tryz.prog 9 #[.pointer (some ⟨b, 0, none⟩), src] w (KeptPost TagMem E (fun ver => hasV 4 none ver) schGroupMetadataValueR b 0 0 bs w) := by
  have C := Lib.hid (readGroupMetadataValue E w b 0 43 [.int .i16 0, .string ⟨#[]⟩, .int .i32 0, .pointer none, .pointer none, .int .i64 (-1), .slice none 0 0, .map none] src bs hB fresh ⟨_, hB.cell_some rfl⟩ hlow hs hbs hE hgE)
  obtain ⟨sa, sc, rfl, -⟩ : ∃ a cap, src = .slice a bs.length cap ∧ True := by obtain ⟨a, cap, h, -⟩ := hs; exact ⟨a, cap, h, trivial⟩
  clear hB hs hbs hE hlow
  go_enter Tryz.func9, Tryz.ntmps9
  go_wp2_with fail
  refine C.out.mono ?_
  intro e w' hp
  obtain ⟨v, rfl⟩ : ∃ v, e = .returned v := ⟨_, hp.1⟩
  have HP := Lib.hid hp
  clear hp C
  go_wp2
  go_ret
  exact HP.out
set_option maxRecDepth 100000 in
set_option maxHeartbeats 3200000 in
theorem again (tE : TypeId) (vE : Value) (w : World) (src : Value) (bs : List UInt8) (hlow : ∀ n r, rdInt 2 32768 bs = some (n, r) → (-32768) ≤ n) (hs : RB [] w src bs) (hbs : bs.length ≤ lim) (hap : ∀ ver gv r, rdK (fun ver => hasV 4 none ver) schGroupMetadataValueR bs = some ((ver, gv), r) → (be16 ver ++ ap ver ((fun ver => hasV 4 none ver) ver) schGroupMetadataValueR gv).length ≤ lim) (hE : w.cell? ⟨1, 0, none⟩ = some (.iface tE vE)) :
    Calls Tryz.prog 4 #[src] w (AgainPostK (fun ver => hasV 4 none ver) schGroupMetadataValueR bs w) := by
  obtain ⟨sa, sc, rfl, -⟩ : ∃ a cap, src = .slice a bs.length cap ∧ True := by obtain ⟨a, cap, h, -⟩ := hs; exact ⟨a, cap, h, trivial⟩
  have hgl := World.block_lt_of_cell? w _ hE
  have H := Lib.hid (And.intro hs (And.intro hbs (And.intro hE (And.intro hgl hlow))))
  have HAP := Lib.hid hap
  clear hs hbs hE hgl hap hlow
  go_enter Tryz.func4, Tryz.ntmps4
  go_wp2_with fail
  refine (newM _).mono ?_
  rintro e w1 ⟨rfl, hb1⟩
  have z1 := hb1.size
  go_wp2_with (at_builtin; refine halted ?_)
  have hB := Blk.alloc_new w1 [.int .i16 0, .string ⟨#[]⟩, .int .i32 0, .pointer none, .pointer none, .int .i64 (-1), .slice none 0 0, .map none] 43
  have hbel := hb1.alloc z1 (.cells [.int .i16 0, .string ⟨#[]⟩, .int .i32 0, .pointer none, .pointer none, .int .i64 (-1), .slice none 0 0, .map none].toArray 43)
  generalize (w1.alloc (.cells [.int .i16 0, .string ⟨#[]⟩, .int .i32 0, .pointer none, .pointer none, .int .i64 (-1), .slice none 0 0, .map none].toArray 43)) = w2 at *
  have Z := Lib.hid (And.intro hB hbel)
  clear hB hbel hb1
  refine wpl_append_from bt rfl _ _ rfl (w1.heap.size + 1) [] (World.ownsRow_nil ..) (by have := Z.out.1.lt; omega) bs (Src.ofRB Tryz.underlying22 (H.out.1.keeps (Keeps.of_below Z.out.2 (Nat.le_refl _)))) (by have := H.out.2.1; simp; omega) ?_
  intro v3 w3 hown3 hbel3
  rw [List.nil_append] at hown3
  obtain ⟨ya, yc, hv3⟩ := own_shape hown3
  have hB3 : Blk w3 w1.heap.size [.int .i16 0, .string ⟨#[]⟩, .int .i32 0, .pointer none, .pointer none, .int .i64 (-1), .slice none 0 0, .map none] 43 := Z.out.1.below hbel3 (by omega)
  have hE3 : w3.cell? ⟨1, 0, none⟩ = some (.iface tE vE) := ((Z.out.2.trans (hbel3.mono (by omega))).cell (p := ⟨1, 0, none⟩) H.out.2.2.2.1).trans H.out.2.2.1
  have C := Lib.hid (readF (.iface tE vE) w3 w1.heap.size v3 bs H.out.2.2.2.2 hB3 (hown3.rb [w1.heap.size] (by simp)) H.out.2.1 hE3 (by have := H.out.2.2.2.1; omega))
  have Y := Lib.hid (And.intro hbel3 hB3)
  generalize bs.length = yn at hv3
  subst hv3
  clear hown3 hbel3 hB3 hE3
  go_wp2_with fail
  refine C.out.mono ?_
  intro e w4 hp
  obtain ⟨rfl, hk4, hg4⟩ := hp
  have b34 : Below w.heap.size w3 w4 := hk4.below (by have := Y.out.2.lt; omega) (by simp; omega)
  have b04 : Below w.heap.size w w4 := (Z.out.2.trans (Y.out.1.mono (by omega))).trans b34
  cases hrd : rdK (fun ver => hasV 4 none ver) schGroupMetadataValueR bs with
  | none =>
    have HN := Lib.hid (And.intro hrd b04)
    clear C hk4 hg4 hrd b34 b04
    simp only [Option.isSome_none, Bool.false_eq_true, if_false]
    go_wp2
    go_ret2
    exact ⟨HN.out.2, fun _ => rfl, fun ver v r hx => by rw [HN.out.1] at hx; cases hx⟩
  | some q =>
    obtain ⟨⟨ver, gv⟩, r⟩ := q
    obtain ⟨hrep, hver⟩ := hg4 ver gv r hrd
    obtain ⟨hv1, hv2, r', hr'⟩ := rdK_ver hrd
    have hv0 : (-32768) ≤ ver := H.out.2.2.2.2 ver r' hr'
    have hap : ap ver ((fun ver => hasV 4 none ver) ver) schGroupMetadataValue (.cons (.int ver) gv) = be16 ver ++ ap ver ((fun ver => hasV 4 none ver) ver) schGroupMetadataValueR gv := apK hv0
    have hal : (ap ver ((fun ver => hasV 4 none ver) ver) schGroupMetadataValue (.cons (.int ver) gv)).length ≤ lim := by rw [hap]; exact HAP.out ver gv r hrd
    have C2 := Lib.hid (appendGroupMetadataValue w4 ver (hasV0 hv0) w1.heap.size 0 (.cons (.int ver) gv) hver (repK hrep hver hv1 hv2) hal)
    have HS := Lib.hid (And.intro hrd (And.intro b04 hap))
    clear C hk4 hg4 hrd b34 b04 hrep hver hal hap
    simp only [Option.isSome_some, if_true]
    go_wp2_with fail
    refine C2.out.mono ?_
    rintro e w5 ⟨x, rfl, hown5, hb5⟩
    have X5 := Lib.hid (And.intro hown5 hb5)
    clear C2 hown5 hb5
    go_wp2
    go_ret2
    refine ⟨HS.out.2.1.trans (X5.out.2.mono HS.out.2.1.size), fun hx => (by rw [HS.out.1] at hx; cases hx), fun ver' v r hx => ?_⟩
    rw [HS.out.1] at hx
    cases hx
    refine ⟨_, rfl, ?_⟩
    have := X5.out.1.mono HS.out.2.1.size
    rwa [HS.out.2.2] at this


theorem agr (ver : Int) (h0 : 0 ≤ ver) (h1 : ver ≤ 0) : agree ver (hasV 4 none ver) schGroupMetadataValueR false 0 (-1) 0 fs6 = true := by
  have h : ver = 0 := by omega
  rcases h with rfl
  all_goals decide +kernel
theorem keep5 {n g : Nat} {w w' : World} {v0 v1 v2 v3 v4 : Value} (hb : Below n w w') (hg : g < n) (h : w.cell? ⟨g, 0, none⟩ = some v0 ∧ w.cell? ⟨g, 1, none⟩ = some v1 ∧ w.cell? ⟨g, 2, none⟩ = some v2 ∧ w.cell? ⟨g, 3, none⟩ = some v3 ∧ w.cell? ⟨g, 4, none⟩ = some v4) :
    w'.cell? ⟨g, 0, none⟩ = some v0 ∧ w'.cell? ⟨g, 1, none⟩ = some v1 ∧ w'.cell? ⟨g, 2, none⟩ = some v2 ∧ w'.cell? ⟨g, 3, none⟩ = some v3 ∧ w'.cell? ⟨g, 4, none⟩ = some v4 :=
  ⟨(hb.cell (p := ⟨g, 0, none⟩) hg).trans h.1, (hb.cell (p := ⟨g, 1, none⟩) hg).trans h.2.1, (hb.cell (p := ⟨g, 2, none⟩) hg).trans h.2.2.1, (hb.cell (p := ⟨g, 3, none⟩) hg).trans h.2.2.2.1, (hb.cell (p := ⟨g, 4, none⟩) hg).trans h.2.2.2.2⟩

theorem okAll (ver : Int) (h : -32768 ≤ ver) : okS ver ((fun ver => hasV 4 none ver) ver) schGroupMetadataValueR = true := by
  unfold schGroupMetadataValueR
  simp [okS, posS, hasV, h]
theorem agr0 : agree 0 ((fun ver => hasV 4 none ver) 0) schGroupMetadataValueR false 0 (-1) 0 fs6 = true := by decide +kernel
set_option maxRecDepth 100000 in
set_option maxHeartbeats 3200000 in
theorem law (tE : TypeId) (vE : Value) (w : World) (src : Value) (bs : List UInt8) (hs : RB [] w src bs) (hE : w.cell? ⟨1, 0, none⟩ = some (.iface tE vE)) :
    Calls Tryz.prog 3 #[src] w fun e w' => e = .returned (.bool true) ∧ Below w.heap.size w w' := by
  obtain ⟨sa, sc, rfl, -⟩ : ∃ a cap, src = .slice a bs.length cap ∧ True := by obtain ⟨a, cap, h, -⟩ := hs; exact ⟨a, cap, h, trivial⟩
  have hgl := World.block_lt_of_cell? w _ hE
  have H := Lib.hid (And.intro hs (And.intro hE hgl))
  clear hs hE hgl
  by_cases hz : 2147483647 < bs.length
  · have hz' : (2147483647 : Int) < (bs.length : Nat) := by omega
    clear hz
    go_enter Tryz.func3, Tryz.ntmps3
    go_wp2
    go_ret
    exact ⟨rfl, Below.refl _ _⟩
  by_cases hk : 1000 < bs.length
  · have hz' : ((bs.length : Nat) : Int) ≤ 2147483647 := by omega
    have hk' : (1000 : Int) < (bs.length : Nat) := by omega
    clear hz hk
    go_enter Tryz.func3, Tryz.ntmps3
    go_wp2
    go_ret
    exact ⟨rfl, Below.refl _ _⟩
  have hz' : ((bs.length : Nat) : Int) ≤ 1000 := by omega
  have HK := Lib.hid (show bs.length ≤ 1000 by omega)
  clear hz hk
  have hlo : ∀ l : List UInt8, ∀ n r, rdInt 2 32768 l = some (n, r) → (-32768) ≤ n := fun l n r h => (out_int (by omega) h).1
  have HL := Lib.hid hlo
  clear hlo
  obtain ⟨gv0, hrd0, -, -⟩ := treeRdK (ver := 0) (fl := (fun ver => hasV 4 none ver)) (by omega) (by omega) (okAll 0 (by omega)) agr0 Tree.zero TW.zero
  obtain ⟨b0, hb0⟩ : ∃ b0, fixed 0 2 ++ pPart 0 ((fun ver => hasV 4 none ver) 0) fs6 Tree.zero = b0 := ⟨_, rfl⟩
  have hl0 : b0.length ≤ 1000 := by rw [← hb0]; decide +kernel
  have H0 := Lib.hid (And.intro hrd0 (And.intro hb0 hl0))
  clear hrd0 hb0 hl0
  go_enter Tryz.func3, Tryz.ntmps3
  go_wp2_with fail
  refine (gives6 _).mono ?_
  rintro e w1 ⟨fv, rfl, hf, hb1⟩
  obtain ⟨fa, fcap, rfl, -⟩ := id hf
  have Z1 := Lib.hid (And.intro hf hb1)
  clear hf hb1
  go_wp2_with fail
  refine (spKept fs6 fsTag fsOpt 0 4 Tree.zero ((fun ver => hasV 4 none ver) 0) (by decide) w1.heap.size w1.heap.size w1 _ _ (Nat.le_refl _) (Nat.le_refl _) Z1.out.1 (RepT.zero _ _) (by rw [H0.out.2.1]; have := H0.out.2.2; unfold lim; omega)).mono ?_
  rintro e w2 ⟨x2, rfl, hown2, hb2⟩
  rw [H0.out.2.1] at hown2
  have b02 : Below w.heap.size w w2 := Z1.out.2.trans (hb2.mono Z1.out.2.size)
  have hE2 : w2.cell? ⟨1, 0, none⟩ = some (.iface tE vE) := (b02.cell (p := ⟨1, 0, none⟩) H.out.2.2).trans H.out.2.1
  have C3 := Lib.hid (again tE vE w2 x2 b0 (HL.out b0) (hown2.rb [] (by simp)) (by have := H0.out.2.2; unfold lim; omega) (fun ver gv r h => by have h1 := (anyLawK okAll H0.out.2.2 h).1; exact Nat.le_trans h1 (by unfold lim; omega)) hE2)
  obtain ⟨xa, xc, hx⟩ := own_shape hown2
  have Z2 := Lib.hid (And.intro b02 hE2)
  generalize b0.length = y0 at hx
  subst hx
  clear hown2 hb2 b02 hE2
  go_wp2_with fail
  refine C3.out.mono ?_
  intro e w3 hp
  obtain ⟨b23, -, hg⟩ := hp
  obtain ⟨x3, rfl, hown3⟩ := hg 0 gv0 [] (by rw [← H0.out.2.1]; exact H0.out.1)
  have b03 : Below w.heap.size w w3 := Z2.out.1.trans (b23.mono Z2.out.1.size)
  have hE3 : w3.cell? ⟨1, 0, none⟩ = some (.iface tE vE) := (b03.cell (p := ⟨1, 0, none⟩) H.out.2.2).trans H.out.2.1
  have C4 := Lib.hid (again tE vE w3 _ bs (HL.out bs) (H.out.1.keeps (Keeps.of_below b03 (Nat.le_refl _))) (by have := HK.out; unfold lim; omega) (fun ver gv r h => by have h1 := (anyLawK okAll HK.out h).1; exact Nat.le_trans h1 (by unfold lim; omega)) hE3)
  have Z3 := Lib.hid (And.intro b03 hE3)
  obtain ⟨za, zc, hx3⟩ := own_shape hown3
  generalize (be16 0 ++ ap 0 ((fun ver => hasV 4 none ver) 0) schGroupMetadataValueR gv0).length = y3 at hx3
  subst hx3
  clear C3 b23 hg hown3 b03 hE3
  go_wp2_with fail
  refine C4.out.mono ?_
  intro e w4 hp
  obtain ⟨b34, hn, hg⟩ := hp
  cases hrd : rdK (fun ver => hasV 4 none ver) schGroupMetadataValueR bs with
  | none =>
    obtain rfl := hn hrd
    have B := Lib.hid (Z3.out.1.trans (b34.mono Z3.out.1.size))
    clear C4 b34 hn hg hrd
    go_wp2
    go_ret
    exact ⟨rfl, B.out⟩
  | some q =>
    obtain ⟨⟨ver, gv⟩, r⟩ := q
    obtain ⟨x, rfl, hown⟩ := hg ver gv r hrd
    obtain ⟨hl2, gv2, hrd2, hap⟩ := anyLawK okAll HK.out hrd
    have b04 : Below w.heap.size w w4 := Z3.out.1.trans (b34.mono Z3.out.1.size)
    have hE4 : w4.cell? ⟨1, 0, none⟩ = some (.iface tE vE) := (b04.cell (p := ⟨1, 0, none⟩) H.out.2.2).trans H.out.2.1
    have HA := Lib.hid (And.intro hown (And.intro b04 (And.intro hrd2 (And.intro hap hl2))))
    obtain ⟨a4, ha4⟩ : ∃ a4, be16 ver ++ ap ver ((fun ver => hasV 4 none ver) ver) schGroupMetadataValueR gv = a4 := ⟨_, rfl⟩
    have C5 := Lib.hid (again tE vE w4 x a4 (HL.out a4) (by rw [← ha4]; exact hown.rb [] (by simp)) (by rw [← ha4]; exact Nat.le_trans hl2 (by unfold lim; omega)) (fun ver' gv' r' h => by have h1 := (anyLawK okAll (by rw [← ha4]; exact hl2) h).1; exact Nat.le_trans h1 (by unfold lim; omega)) hE4)
    rw [ha4] at hown
    obtain ⟨ya, yc, hx⟩ := own_shape hown
    generalize a4.length = yn at hx
    subst hx
    clear C4 b34 hn hg hrd hown hl2 hrd2 hap hE4 b04
    go_wp2_with fail
    refine C5.out.mono ?_
    intro e w5 hp
    obtain ⟨b45, -, hg⟩ := hp
    obtain ⟨y, rfl, hown5⟩ := hg ver gv2 [] (by rw [← ha4]; exact HA.out.2.2.1)
    rw [HA.out.2.2.2.1, ha4] at hown5
    have hx5 : Own w3.heap.size w5 (.slice ya yn yc) a4 := by
      have h := HA.out.1
      rw [ha4] at h
      exact World.ownsRow.kept (row := none) h ⟨b45.os, b45.tape, b45.output, b45.size, fun k hk _ => b45.block k hk⟩ (by cases ya <;> simp [Value.ownBlock])
    have C6 := Lib.hid (sameOK a4 _ y w5.heap.size w5.heap.size w5 (Nat.le_refl _) hx5.rl' hown5.rl' (Nat.le_refl _))
    obtain ⟨ua, uc, hy⟩ := own_shape hown5
    generalize a4.length = un at hy
    subst hy
    have B := Lib.hid (HA.out.2.1.trans (b45.mono HA.out.2.1.size))
    clear C5 b45 hg hown5 hx5
    go_wp2_with fail
    refine C6.out.mono ?_
    rintro e w6 ⟨rfl, b56⟩
    have B6 := Lib.hid (B.out.trans (b56.mono B.out.size))
    clear C6 b56
    go_wp2
    go_ret
    exact ⟨rfl, B6.out⟩

end Go.Proofs.YtkhpglongkhbjaaGreatDoorR.anyGroupMetadataValue
