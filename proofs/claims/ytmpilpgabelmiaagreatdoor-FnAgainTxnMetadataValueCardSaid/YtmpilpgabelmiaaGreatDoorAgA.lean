/- What the reference writes of a TxnMetadataValue is read and written again. Printed by againgen.py. -/
import Derived.Test.YtmpilpgabelmiaaGreatDoorMf
import Derived.Test.YtmpilpgabelmiaaGreatDoorMi
import Derived.Test.YtmpilpgabelmiaaGreatDoorReadA
import Derived.Test.YtmpilpgabelmiaaGreatDoorMl
namespace Go.Proofs.YtmpilpgabelmiaaGreatDoor.againTxnMetadataValue
open Go Go.RowKit
set_option linter.unusedVariables false
def fs17 : PFs := (.cons 8 0 (-1) (-1) (-1) 0 0 .nil (.cons 11 0 (-1) (-1) (-1) 0 3 .nil .nil))
def fs7 : PFs := (.cons 4 0 (-1) (-1) (-1) 0 0 .nil (.cons 2 0 (-1) (-1) (-1) 0 0 .nil (.cons 3 0 (-1) (-1) (-1) 0 0 .nil (.cons 1 0 (-1) (-1) (-1) 0 0 .nil (.cons 11 0 (-1) (-1) (-1) 0 10 fs17 (.cons 4 0 (-1) (-1) (-1) 0 0 .nil (.cons 4 0 (-1) (-1) (-1) 0 0 .nil (.cons 4 0 (-1) (-1) 0 (-1) 0 .nil (.cons 4 0 (-1) (-1) 1 (-1) 0 .nil (.cons 2 0 (-1) (-1) 2 0 0 .nil (.cons 2 0 (-1) (-1) 3 (-1) 0 .nil .nil)))))))))))
set_option maxRecDepth 100000 in
set_option maxHeartbeats 1600000 in
theorem gives17 : GivesF 17 fs17 := by
  intro w0
  have hbt := Below.refl w0.heap.size w0
  go_enter Tryz.func17, Tryz.ntmps17
  go_wp2_with fail
  have hB := Blk.alloc_new w0 [.int .i64 8, .int .i64 0, .int .i64 (-1), .int .i64 (-1), .int .i64 (-1), .int .i64 0, .int .i64 0, .slice none 0 0, .int .i64 11, .int .i64 0, .int .i64 (-1), .int .i64 (-1), .int .i64 (-1), .int .i64 0, .int .i64 3, .slice none 0 0] 45
  have hbf := (Below.refl w0.heap.size w0).alloc (Nat.le_refl _) (.cells [.int .i64 8, .int .i64 0, .int .i64 (-1), .int .i64 (-1), .int .i64 (-1), .int .i64 0, .int .i64 0, .slice none 0 0, .int .i64 11, .int .i64 0, .int .i64 (-1), .int .i64 (-1), .int .i64 (-1), .int .i64 0, .int .i64 3, .slice none 0 0].toArray 45)
  have hbt2 := hbt.trans (hbf.mono hbt.size)
  have hzz : w0.heap.size < (w0.alloc (.cells [.int .i64 8, .int .i64 0, .int .i64 (-1), .int .i64 (-1), .int .i64 (-1), .int .i64 0, .int .i64 0, .slice none 0 0, .int .i64 11, .int .i64 0, .int .i64 (-1), .int .i64 (-1), .int .i64 (-1), .int .i64 0, .int .i64 3, .slice none 0 0].toArray 45)).heap.size := by simp
  have hR : RepF (w0.alloc (.cells [.int .i64 8, .int .i64 0, .int .i64 (-1), .int .i64 (-1), .int .i64 (-1), .int .i64 0, .int .i64 0, .slice none 0 0, .int .i64 11, .int .i64 0, .int .i64 (-1), .int .i64 (-1), .int .i64 (-1), .int .i64 0, .int .i64 3, .slice none 0 0].toArray 45)).heap.size (w0.alloc (.cells [.int .i64 8, .int .i64 0, .int .i64 (-1), .int .i64 (-1), .int .i64 (-1), .int .i64 0, .int .i64 0, .slice none 0 0, .int .i64 11, .int .i64 0, .int .i64 (-1), .int .i64 (-1), .int .i64 (-1), .int .i64 0, .int .i64 3, .slice none 0 0].toArray 45)) fs17 (.slice (some ⟨w0.heap.size, 0, none⟩) 2 2) := ⟨some ⟨w0.heap.size, 0, none⟩, 2, rfl, by decide, fun _ => ⟨_, 0, rfl, hzz, ⟨⟨hB.cell_some rfl, hB.cell_some rfl, hB.cell_some rfl, hB.cell_some rfl, hB.cell_some rfl, hB.cell_some rfl, hB.cell_some rfl⟩, ⟨_, hB.cell_some rfl, ⟨none, 0, rfl, by decide, fun h => absurd rfl h⟩⟩, ⟨⟨hB.cell_some rfl, hB.cell_some rfl, hB.cell_some rfl, hB.cell_some rfl, hB.cell_some rfl, hB.cell_some rfl, hB.cell_some rfl⟩, ⟨_, hB.cell_some rfl, ⟨none, 0, rfl, by decide, fun h => absurd rfl h⟩⟩, trivial⟩⟩⟩⟩
  have Z := Lib.hid (And.intro hR hbt2)
  clear hB hR hbf hbt hbt2 hzz
  go_ret
  exact ⟨_, rfl, Z.out.1, Z.out.2⟩
set_option maxRecDepth 100000 in
set_option maxHeartbeats 1600000 in
theorem gives7 : GivesM 7 fs7 1 := by
  intro w0
  have hM := Blk.alloc_new w0 [.slice none 0 0, .int .i64 0] 31
  have hbt := (Below.refl w0.heap.size w0).alloc (Nat.le_refl _) (.cells #[.slice none 0 0, .int .i64 0] 31)
  have hsz : w0.heap.size + 1 ≤ (w0.alloc (.cells #[.slice none 0 0, .int .i64 0] 31)).heap.size := by simp
  go_enter Tryz.func7, Tryz.ntmps7
  go_wp2_with fail
  refine (gives17 _).mono ?_
  rintro e w1 ⟨v1, rfl, hv1, hb1⟩
  obtain ⟨a1, c1, rfl, -⟩ := id hv1
  have z1 := hb1.size
  have hM := hM.below hb1 (by simp)
  have hsz := Nat.le_trans hsz z1
  have hbt := hbt.trans (hb1.mono (by first | exact Nat.le_refl _ | exact hbt.size | omega))
  clear hb1
  have hB := Blk.alloc_new w1 [.int .i64 4, .int .i64 0, .int .i64 (-1), .int .i64 (-1), .int .i64 (-1), .int .i64 0, .int .i64 0, .slice none 0 0, .int .i64 2, .int .i64 0, .int .i64 (-1), .int .i64 (-1), .int .i64 (-1), .int .i64 0, .int .i64 0, .slice none 0 0, .int .i64 3, .int .i64 0, .int .i64 (-1), .int .i64 (-1), .int .i64 (-1), .int .i64 0, .int .i64 0, .slice none 0 0, .int .i64 1, .int .i64 0, .int .i64 (-1), .int .i64 (-1), .int .i64 (-1), .int .i64 0, .int .i64 0, .slice none 0 0, .int .i64 11, .int .i64 0, .int .i64 (-1), .int .i64 (-1), .int .i64 (-1), .int .i64 0, .int .i64 10, .slice a1 fs17.len c1, .int .i64 4, .int .i64 0, .int .i64 (-1), .int .i64 (-1), .int .i64 (-1), .int .i64 0, .int .i64 0, .slice none 0 0, .int .i64 4, .int .i64 0, .int .i64 (-1), .int .i64 (-1), .int .i64 (-1), .int .i64 0, .int .i64 0, .slice none 0 0, .int .i64 4, .int .i64 0, .int .i64 (-1), .int .i64 (-1), .int .i64 0, .int .i64 (-1), .int .i64 0, .slice none 0 0, .int .i64 4, .int .i64 0, .int .i64 (-1), .int .i64 (-1), .int .i64 1, .int .i64 (-1), .int .i64 0, .slice none 0 0, .int .i64 2, .int .i64 0, .int .i64 (-1), .int .i64 (-1), .int .i64 2, .int .i64 0, .int .i64 0, .slice none 0 0, .int .i64 2, .int .i64 0, .int .i64 (-1), .int .i64 (-1), .int .i64 3, .int .i64 (-1), .int .i64 0, .slice none 0 0] 45
  have hbf := (Below.refl w1.heap.size w1).alloc (Nat.le_refl _) (.cells [.int .i64 4, .int .i64 0, .int .i64 (-1), .int .i64 (-1), .int .i64 (-1), .int .i64 0, .int .i64 0, .slice none 0 0, .int .i64 2, .int .i64 0, .int .i64 (-1), .int .i64 (-1), .int .i64 (-1), .int .i64 0, .int .i64 0, .slice none 0 0, .int .i64 3, .int .i64 0, .int .i64 (-1), .int .i64 (-1), .int .i64 (-1), .int .i64 0, .int .i64 0, .slice none 0 0, .int .i64 1, .int .i64 0, .int .i64 (-1), .int .i64 (-1), .int .i64 (-1), .int .i64 0, .int .i64 0, .slice none 0 0, .int .i64 11, .int .i64 0, .int .i64 (-1), .int .i64 (-1), .int .i64 (-1), .int .i64 0, .int .i64 10, .slice a1 fs17.len c1, .int .i64 4, .int .i64 0, .int .i64 (-1), .int .i64 (-1), .int .i64 (-1), .int .i64 0, .int .i64 0, .slice none 0 0, .int .i64 4, .int .i64 0, .int .i64 (-1), .int .i64 (-1), .int .i64 (-1), .int .i64 0, .int .i64 0, .slice none 0 0, .int .i64 4, .int .i64 0, .int .i64 (-1), .int .i64 (-1), .int .i64 0, .int .i64 (-1), .int .i64 0, .slice none 0 0, .int .i64 4, .int .i64 0, .int .i64 (-1), .int .i64 (-1), .int .i64 1, .int .i64 (-1), .int .i64 0, .slice none 0 0, .int .i64 2, .int .i64 0, .int .i64 (-1), .int .i64 (-1), .int .i64 2, .int .i64 0, .int .i64 0, .slice none 0 0, .int .i64 2, .int .i64 0, .int .i64 (-1), .int .i64 (-1), .int .i64 3, .int .i64 (-1), .int .i64 0, .slice none 0 0].toArray 45)
  have hbt2 := hbt.trans (hbf.mono hbt.size)
  have hzz : w1.heap.size < (w1.alloc (.cells [.int .i64 4, .int .i64 0, .int .i64 (-1), .int .i64 (-1), .int .i64 (-1), .int .i64 0, .int .i64 0, .slice none 0 0, .int .i64 2, .int .i64 0, .int .i64 (-1), .int .i64 (-1), .int .i64 (-1), .int .i64 0, .int .i64 0, .slice none 0 0, .int .i64 3, .int .i64 0, .int .i64 (-1), .int .i64 (-1), .int .i64 (-1), .int .i64 0, .int .i64 0, .slice none 0 0, .int .i64 1, .int .i64 0, .int .i64 (-1), .int .i64 (-1), .int .i64 (-1), .int .i64 0, .int .i64 0, .slice none 0 0, .int .i64 11, .int .i64 0, .int .i64 (-1), .int .i64 (-1), .int .i64 (-1), .int .i64 0, .int .i64 10, .slice a1 fs17.len c1, .int .i64 4, .int .i64 0, .int .i64 (-1), .int .i64 (-1), .int .i64 (-1), .int .i64 0, .int .i64 0, .slice none 0 0, .int .i64 4, .int .i64 0, .int .i64 (-1), .int .i64 (-1), .int .i64 (-1), .int .i64 0, .int .i64 0, .slice none 0 0, .int .i64 4, .int .i64 0, .int .i64 (-1), .int .i64 (-1), .int .i64 0, .int .i64 (-1), .int .i64 0, .slice none 0 0, .int .i64 4, .int .i64 0, .int .i64 (-1), .int .i64 (-1), .int .i64 1, .int .i64 (-1), .int .i64 0, .slice none 0 0, .int .i64 2, .int .i64 0, .int .i64 (-1), .int .i64 (-1), .int .i64 2, .int .i64 0, .int .i64 0, .slice none 0 0, .int .i64 2, .int .i64 0, .int .i64 (-1), .int .i64 (-1), .int .i64 3, .int .i64 (-1), .int .i64 0, .slice none 0 0].toArray 45)).heap.size := by simp
  have hv1 := hv1.up hbf (Nat.le_of_lt hzz)
  have hR : RepF (w1.alloc (.cells [.int .i64 4, .int .i64 0, .int .i64 (-1), .int .i64 (-1), .int .i64 (-1), .int .i64 0, .int .i64 0, .slice none 0 0, .int .i64 2, .int .i64 0, .int .i64 (-1), .int .i64 (-1), .int .i64 (-1), .int .i64 0, .int .i64 0, .slice none 0 0, .int .i64 3, .int .i64 0, .int .i64 (-1), .int .i64 (-1), .int .i64 (-1), .int .i64 0, .int .i64 0, .slice none 0 0, .int .i64 1, .int .i64 0, .int .i64 (-1), .int .i64 (-1), .int .i64 (-1), .int .i64 0, .int .i64 0, .slice none 0 0, .int .i64 11, .int .i64 0, .int .i64 (-1), .int .i64 (-1), .int .i64 (-1), .int .i64 0, .int .i64 10, .slice a1 fs17.len c1, .int .i64 4, .int .i64 0, .int .i64 (-1), .int .i64 (-1), .int .i64 (-1), .int .i64 0, .int .i64 0, .slice none 0 0, .int .i64 4, .int .i64 0, .int .i64 (-1), .int .i64 (-1), .int .i64 (-1), .int .i64 0, .int .i64 0, .slice none 0 0, .int .i64 4, .int .i64 0, .int .i64 (-1), .int .i64 (-1), .int .i64 0, .int .i64 (-1), .int .i64 0, .slice none 0 0, .int .i64 4, .int .i64 0, .int .i64 (-1), .int .i64 (-1), .int .i64 1, .int .i64 (-1), .int .i64 0, .slice none 0 0, .int .i64 2, .int .i64 0, .int .i64 (-1), .int .i64 (-1), .int .i64 2, .int .i64 0, .int .i64 0, .slice none 0 0, .int .i64 2, .int .i64 0, .int .i64 (-1), .int .i64 (-1), .int .i64 3, .int .i64 (-1), .int .i64 0, .slice none 0 0].toArray 45)).heap.size (w1.alloc (.cells [.int .i64 4, .int .i64 0, .int .i64 (-1), .int .i64 (-1), .int .i64 (-1), .int .i64 0, .int .i64 0, .slice none 0 0, .int .i64 2, .int .i64 0, .int .i64 (-1), .int .i64 (-1), .int .i64 (-1), .int .i64 0, .int .i64 0, .slice none 0 0, .int .i64 3, .int .i64 0, .int .i64 (-1), .int .i64 (-1), .int .i64 (-1), .int .i64 0, .int .i64 0, .slice none 0 0, .int .i64 1, .int .i64 0, .int .i64 (-1), .int .i64 (-1), .int .i64 (-1), .int .i64 0, .int .i64 0, .slice none 0 0, .int .i64 11, .int .i64 0, .int .i64 (-1), .int .i64 (-1), .int .i64 (-1), .int .i64 0, .int .i64 10, .slice a1 fs17.len c1, .int .i64 4, .int .i64 0, .int .i64 (-1), .int .i64 (-1), .int .i64 (-1), .int .i64 0, .int .i64 0, .slice none 0 0, .int .i64 4, .int .i64 0, .int .i64 (-1), .int .i64 (-1), .int .i64 (-1), .int .i64 0, .int .i64 0, .slice none 0 0, .int .i64 4, .int .i64 0, .int .i64 (-1), .int .i64 (-1), .int .i64 0, .int .i64 (-1), .int .i64 0, .slice none 0 0, .int .i64 4, .int .i64 0, .int .i64 (-1), .int .i64 (-1), .int .i64 1, .int .i64 (-1), .int .i64 0, .slice none 0 0, .int .i64 2, .int .i64 0, .int .i64 (-1), .int .i64 (-1), .int .i64 2, .int .i64 0, .int .i64 0, .slice none 0 0, .int .i64 2, .int .i64 0, .int .i64 (-1), .int .i64 (-1), .int .i64 3, .int .i64 (-1), .int .i64 0, .slice none 0 0].toArray 45)) fs7 (.slice (some ⟨w1.heap.size, 0, none⟩) 11 11) := ⟨some ⟨w1.heap.size, 0, none⟩, 11, rfl, by decide, fun _ => ⟨_, 0, rfl, hzz, ⟨⟨hB.cell_some rfl, hB.cell_some rfl, hB.cell_some rfl, hB.cell_some rfl, hB.cell_some rfl, hB.cell_some rfl, hB.cell_some rfl⟩, ⟨_, hB.cell_some rfl, ⟨none, 0, rfl, by decide, fun h => absurd rfl h⟩⟩, ⟨⟨hB.cell_some rfl, hB.cell_some rfl, hB.cell_some rfl, hB.cell_some rfl, hB.cell_some rfl, hB.cell_some rfl, hB.cell_some rfl⟩, ⟨_, hB.cell_some rfl, ⟨none, 0, rfl, by decide, fun h => absurd rfl h⟩⟩, ⟨⟨hB.cell_some rfl, hB.cell_some rfl, hB.cell_some rfl, hB.cell_some rfl, hB.cell_some rfl, hB.cell_some rfl, hB.cell_some rfl⟩, ⟨_, hB.cell_some rfl, ⟨none, 0, rfl, by decide, fun h => absurd rfl h⟩⟩, ⟨⟨hB.cell_some rfl, hB.cell_some rfl, hB.cell_some rfl, hB.cell_some rfl, hB.cell_some rfl, hB.cell_some rfl, hB.cell_some rfl⟩, ⟨_, hB.cell_some rfl, ⟨none, 0, rfl, by decide, fun h => absurd rfl h⟩⟩, ⟨⟨hB.cell_some rfl, hB.cell_some rfl, hB.cell_some rfl, hB.cell_some rfl, hB.cell_some rfl, hB.cell_some rfl, hB.cell_some rfl⟩, ⟨_, hB.cell_some rfl, hv1⟩, ⟨⟨hB.cell_some rfl, hB.cell_some rfl, hB.cell_some rfl, hB.cell_some rfl, hB.cell_some rfl, hB.cell_some rfl, hB.cell_some rfl⟩, ⟨_, hB.cell_some rfl, ⟨none, 0, rfl, by decide, fun h => absurd rfl h⟩⟩, ⟨⟨hB.cell_some rfl, hB.cell_some rfl, hB.cell_some rfl, hB.cell_some rfl, hB.cell_some rfl, hB.cell_some rfl, hB.cell_some rfl⟩, ⟨_, hB.cell_some rfl, ⟨none, 0, rfl, by decide, fun h => absurd rfl h⟩⟩, ⟨⟨hB.cell_some rfl, hB.cell_some rfl, hB.cell_some rfl, hB.cell_some rfl, hB.cell_some rfl, hB.cell_some rfl, hB.cell_some rfl⟩, ⟨_, hB.cell_some rfl, ⟨none, 0, rfl, by decide, fun h => absurd rfl h⟩⟩, ⟨⟨hB.cell_some rfl, hB.cell_some rfl, hB.cell_some rfl, hB.cell_some rfl, hB.cell_some rfl, hB.cell_some rfl, hB.cell_some rfl⟩, ⟨_, hB.cell_some rfl, ⟨none, 0, rfl, by decide, fun h => absurd rfl h⟩⟩, ⟨⟨hB.cell_some rfl, hB.cell_some rfl, hB.cell_some rfl, hB.cell_some rfl, hB.cell_some rfl, hB.cell_some rfl, hB.cell_some rfl⟩, ⟨_, hB.cell_some rfl, ⟨none, 0, rfl, by decide, fun h => absurd rfl h⟩⟩, ⟨⟨hB.cell_some rfl, hB.cell_some rfl, hB.cell_some rfl, hB.cell_some rfl, hB.cell_some rfl, hB.cell_some rfl, hB.cell_some rfl⟩, ⟨_, hB.cell_some rfl, ⟨none, 0, rfl, by decide, fun h => absurd rfl h⟩⟩, trivial⟩⟩⟩⟩⟩⟩⟩⟩⟩⟩⟩⟩⟩
  have Z := Lib.hid (And.intro hR hbt2)
  have hM2 := hM.alloc (.cells [.int .i64 4, .int .i64 0, .int .i64 (-1), .int .i64 (-1), .int .i64 (-1), .int .i64 0, .int .i64 0, .slice none 0 0, .int .i64 2, .int .i64 0, .int .i64 (-1), .int .i64 (-1), .int .i64 (-1), .int .i64 0, .int .i64 0, .slice none 0 0, .int .i64 3, .int .i64 0, .int .i64 (-1), .int .i64 (-1), .int .i64 (-1), .int .i64 0, .int .i64 0, .slice none 0 0, .int .i64 1, .int .i64 0, .int .i64 (-1), .int .i64 (-1), .int .i64 (-1), .int .i64 0, .int .i64 0, .slice none 0 0, .int .i64 11, .int .i64 0, .int .i64 (-1), .int .i64 (-1), .int .i64 (-1), .int .i64 0, .int .i64 10, .slice a1 fs17.len c1, .int .i64 4, .int .i64 0, .int .i64 (-1), .int .i64 (-1), .int .i64 (-1), .int .i64 0, .int .i64 0, .slice none 0 0, .int .i64 4, .int .i64 0, .int .i64 (-1), .int .i64 (-1), .int .i64 (-1), .int .i64 0, .int .i64 0, .slice none 0 0, .int .i64 4, .int .i64 0, .int .i64 (-1), .int .i64 (-1), .int .i64 0, .int .i64 (-1), .int .i64 0, .slice none 0 0, .int .i64 4, .int .i64 0, .int .i64 (-1), .int .i64 (-1), .int .i64 1, .int .i64 (-1), .int .i64 0, .slice none 0 0, .int .i64 2, .int .i64 0, .int .i64 (-1), .int .i64 (-1), .int .i64 2, .int .i64 0, .int .i64 0, .slice none 0 0, .int .i64 2, .int .i64 0, .int .i64 (-1), .int .i64 (-1), .int .i64 3, .int .i64 (-1), .int .i64 0, .slice none 0 0].toArray 45)
  have hMM := Lib.hid hM2
  have m0 := fun o => (hM.alloc o).cell_some (i := 0) rfl
  have m1 := fun o => (hM.alloc o).cell_some (i := 1) rfl
  have f0 := fun o => (hM.alloc o).frozen 0
  have f1 := fun o => (hM.alloc o).frozen 1
  clear hB hR hbf hbt hbt2 hzz hv1 hM hM2
  go_wp2
  have hR := Z.out.1
  have hbt := Z.out.2
  have hR1 := hR.other (i := 0) (v := .slice (some ⟨w1.heap.size, 0, none⟩) 11 11) hMM.out
  have hM1 := hMM.out.set 0 (.slice (some ⟨w1.heap.size, 0, none⟩) 11 11)
  have hR2 := hR1.other (i := 1) (v := .int .i64 1) hM1
  have hM2 := hM1.set 1 (.int .i64 1)
  have hbt2 := (hbt.setCell (p := ⟨w0.heap.size, 0, none⟩) (Nat.le_refl _) (.slice (some ⟨w1.heap.size, 0, none⟩) 11 11)).setCell (p := ⟨w0.heap.size, 1, none⟩) (Nat.le_refl _) (.int .i64 1)
  exact ret_msg (fn := Tryz.f7) (g := w0.heap.size) rfl rfl hM2 rfl ⟨_, rfl, by simpa using hR2, hbt2⟩
theorem fsOpt : fs7.noOpt := by simp [PFs.noOpt, fs17, fs7]
theorem fsTag : fs7.tagOK := ⟨.inl rfl, trivial, ⟨.inl rfl, trivial, ⟨.inl rfl, trivial, ⟨.inl rfl, trivial, ⟨.inl rfl, (by simp [PFs.noTag, fs17]), ⟨.inl rfl, trivial, ⟨.inl rfl, trivial, ⟨.inr ⟨0, rfl, by decide⟩, trivial, ⟨.inr ⟨1, rfl, by decide⟩, trivial, ⟨.inr ⟨2, rfl, by decide⟩, trivial, ⟨.inr ⟨3, rfl, by decide⟩, trivial, trivial⟩⟩⟩⟩⟩⟩⟩⟩⟩⟩⟩
theorem fsKind : fs7.kindOK := ⟨.inl rfl, ⟨.inl rfl, ⟨.inl rfl, ⟨.inl rfl, ⟨.inl rfl, ⟨.inl rfl, ⟨.inl rfl, ⟨.inr (.inl ⟨by decide, by decide⟩), ⟨.inr (.inl ⟨by decide, by decide⟩), ⟨.inr (.inl ⟨by decide, by decide⟩), ⟨.inr (.inl ⟨by decide, by decide⟩), trivial⟩⟩⟩⟩⟩⟩⟩⟩⟩⟩⟩
theorem fsSub : SubsAll fs7 := subsAllT _ fsTag fsOpt
theorem fsNum : fs7.numTags = true := by decide +kernel
theorem fsLen (ver : Int) (t : Tree) : (pKn ver true fs7 fs7.known t).length ≤ 1000 := Nat.le_trans (pKn_len _) (by decide +kernel)
theorem fsCont (ver : Int) (t : Tree) : ∀ x ∈ pKn ver true fs7 fs7.known t, x.2.length ≤ 4294967295 := fun x hx => Nat.le_trans (pKn_num fsNum x hx) (by decide)
theorem mcM : ManyCells Tryz.prog 55 13 := ⟨fun w => Tryz.isAgg55 w, ⟨Tryz.t55, _, by kernel_rfl, rfl, rfl, rfl⟩⟩
theorem infoM : (Tryz.prog.info? 55).map (fun i => i.zero) = some (some (.agg [.int .i16 0, .int .i64 0, .int .i16 0, .int .i32 0, .int .i8 0, .slice none 0 0, .int .i64 0, .int .i64 0, .int .i64 0, .int .i64 0, .int .i16 0, .int .i16 0, .map none].toArray)) := by kernel_rfl
theorem allocM (w : World) : (Instr.alloc 55 true (.tuple #[])).run Tryz.prog w = .ok (.pointer (some ⟨w.heap.size, 0, none⟩)) (w.alloc (.cells [.int .i16 0, .int .i64 0, .int .i16 0, .int .i32 0, .int .i8 0, .slice none 0 0, .int .i64 0, .int .i64 0, .int .i64 0, .int .i64 0, .int .i16 0, .int .i16 0, .map none].toArray 55)) := by
  obtain ⟨i, hi, hz⟩ : ∃ i, Tryz.prog.info? 55 = some i ∧ i.zero = some (.agg [.int .i16 0, .int .i64 0, .int .i16 0, .int .i32 0, .int .i8 0, .slice none 0 0, .int .i64 0, .int .i64 0, .int .i64 0, .int .i64 0, .int .i16 0, .int .i16 0, .map none].toArray) := by
    have h := infoM
    cases hx : Tryz.prog.info? 55 with
    | none => rw [hx] at h; cases h
    | some i => rw [hx] at h; exact ⟨i, rfl, by simpa using h⟩
  simp [Instr.alloc, zeroValue, typeInfo, hi, hz, newVar, newRow, Value.cells]
set_option maxHeartbeats 800000 in
theorem defM (w : World) (b : Nat) (h : Blk w b [.int .i16 0, .int .i64 0, .int .i16 0, .int .i32 0, .int .i8 0, .slice none 0 0, .int .i64 0, .int .i64 0, .int .i64 0, .int .i64 0, .int .i16 0, .int .i16 0, .map none] 55) : Calls Tryz.prog 30 #[.pointer (some ⟨b, 0, none⟩)] w fun en w' => en = .returned (.tuple #[]) ∧ Blk w' b [.int .i16 0, .int .i64 0, .int .i16 0, .int .i32 0, .int .i8 0, .slice none 0 0, .int .i64 0, .int .i64 0, .int .i64 (-1), .int .i64 (-1), .int .i16 0, .int .i16 (-1), .map none] 55 ∧ Keeps [b] w w' := by
  have m8 := h.cell_some (i := 8) rfl
  have f8 := h.frozen 8
  have m9 := h.cell_some (i := 9) rfl
  have f9 := h.frozen 9
  have m11 := h.cell_some (i := 11) rfl
  have f11 := h.frozen 11
  have HB := Lib.hid h
  clear h
  go_enter Tryz.func30, Tryz.ntmps30
  go_wp2
  go_end0
  have h := HB.out
  exact ⟨rfl, (((h.set 8 (.int .i64 (-1))).set 9 (.int .i64 (-1))).set 11 (.int .i16 (-1))), ((((Keeps.refl [b] w).setCell (by simp) _).setCell (by simp) _).setCell (by simp) _)⟩
theorem newM (w : World) : Calls Tryz.prog 18 #[] w fun e w' => e = .returned (.agg [.int .i16 0, .int .i64 0, .int .i16 0, .int .i32 0, .int .i8 0, .slice none 0 0, .int .i64 0, .int .i64 0, .int .i64 (-1), .int .i64 (-1), .int .i16 0, .int .i16 (-1), .map none].toArray) ∧ Below w.heap.size w w' :=
  calls_newK (z := [.int .i16 0, .int .i64 0, .int .i16 0, .int .i32 0, .int .i8 0, .slice none 0 0, .int .i64 0, .int .i64 0, .int .i64 0, .int .i64 0, .int .i16 0, .int .i16 0, .map none]) (C := [.int .i16 0, .int .i64 0, .int .i16 0, .int .i32 0, .int .i8 0, .slice none 0 0, .int .i64 0, .int .i64 0, .int .i64 (-1), .int .i64 (-1), .int .i16 0, .int .i16 (-1), .map none]) (n := 13) Tryz.func18 rfl rfl (by decide) rfl Tryz.call30 mcM allocM rfl rfl (by decide) defM w
theorem hasV0 {ver : Int} (h : 0 ≤ ver) : hasV 0 none ver = true := by simp [hasV, h]
theorem ok (ver : Int) (h0 : 0 ≤ ver) (h1 : ver ≤ 1) : okS ver (hasV 1 none ver) schTxnMetadataValueR = true := by
  have h : ver = 0 ∨ ver = 1 := by omega
  rcases h with rfl | rfl
  all_goals decide +kernel
theorem fresh : Fresh [.int .i16 0, .int .i64 0, .int .i16 0, .int .i32 0, .int .i8 0, .slice none 0 0, .int .i64 0, .int .i64 0, .int .i64 (-1), .int .i64 (-1), .int .i16 0, .int .i16 (-1), .map none] 0 schTxnMetadataValueR := by
  unfold schTxnMetadataValueR
  simp only [Fresh]
  (repeat' apply And.intro) <;> first | rfl | trivial | exact Nat.le_of_ble_eq_true rfl | (intro i u h; match i, h with | 0, h => (cases h; rfl) | j + 1, h => simp [dcells] at h)
set_option maxHeartbeats 1600000 in
theorem readF (E : Value) (tE : TypeId) (vE : Value) (hEi : E = .iface tE vE) (w : World) (b : Nat) (src : Value) (bs : List UInt8) (hlow : ∀ n r, rdInt 2 32768 bs = some (n, r) → 0 ≤ n) (hB : Blk w b [.int .i16 0, .int .i64 0, .int .i16 0, .int .i32 0, .int .i8 0, .slice none 0 0, .int .i64 0, .int .i64 0, .int .i64 (-1), .int .i64 (-1), .int .i16 0, .int .i16 (-1), .map none] 55) (hs : RB [b] w src bs) (hbs : bs.length ≤ lim) (hE : w.cell? ⟨1, 0, none⟩ = some E) (hgE : 1 ≠ b) :
    Calls Tryz.prog 19 #[.pointer (some ⟨b, 0, none⟩), src] w (KeptPost TagMem E (fun ver => hasV 1 none ver) schTxnMetadataValueR b 0 0 bs w) := by
  have C := Lib.hid (readTxnMetadataValue E tE vE hEi w b 0 55 [.int .i16 0, .int .i64 0, .int .i16 0, .int .i32 0, .int .i8 0, .slice none 0 0, .int .i64 0, .int .i64 0, .int .i64 (-1), .int .i64 (-1), .int .i16 0, .int .i16 (-1), .map none] src bs hB fresh ⟨_, hB.cell_some rfl⟩ hlow hs hbs hE hgE)
  obtain ⟨sa, sc, rfl, -⟩ : ∃ a cap, src = .slice a bs.length cap ∧ True := by obtain ⟨a, cap, h, -⟩ := hs; exact ⟨a, cap, h, trivial⟩
  clear hB hs hbs hE hlow
  go_enter Tryz.func19, Tryz.ntmps19
  go_wp2_with fail
  refine C.out.mono ?_
  intro e w' hp
  obtain ⟨v, rfl⟩ : ∃ v, e = .returned v := ⟨_, hp.1⟩
  have HP := Lib.hid hp
  clear hp C
  go_wp2
  go_ret
  exact HP.out
set_option maxRecDepth 100000 in
set_option maxHeartbeats 3200000 in
theorem again (tE : TypeId) (vE : Value) (w : World) (src : Value) (bs : List UInt8) (hlow : ∀ n r, rdInt 2 32768 bs = some (n, r) → 0 ≤ n) (hs : RB [] w src bs) (hbs : bs.length ≤ lim) (hap : ∀ ver gv r, rdK (fun ver => hasV 1 none ver) schTxnMetadataValueR bs = some ((ver, gv), r) → (be16 ver ++ ap ver ((fun ver => hasV 1 none ver) ver) schTxnMetadataValueR gv).length ≤ lim) (hE : w.cell? ⟨1, 0, none⟩ = some (.iface tE vE)) :
    Calls Tryz.prog 8 #[src] w (AgainPostK (fun ver => hasV 1 none ver) schTxnMetadataValueR bs w) := by
  obtain ⟨sa, sc, rfl, -⟩ : ∃ a cap, src = .slice a bs.length cap ∧ True := by obtain ⟨a, cap, h, -⟩ := hs; exact ⟨a, cap, h, trivial⟩
  have hgl := World.block_lt_of_cell? w _ hE
  have H := Lib.hid (And.intro hs (And.intro hbs (And.intro hE (And.intro hgl hlow))))
  have HAP := Lib.hid hap
  clear hs hbs hE hgl hap hlow
  go_enter Tryz.func8, Tryz.ntmps8
  go_wp2_with fail
  refine (newM _).mono ?_
  rintro e w1 ⟨rfl, hb1⟩
  have z1 := hb1.size
  go_wp2_with (at_builtin; refine halted ?_)
  have hB := Blk.alloc_new w1 [.int .i16 0, .int .i64 0, .int .i16 0, .int .i32 0, .int .i8 0, .slice none 0 0, .int .i64 0, .int .i64 0, .int .i64 (-1), .int .i64 (-1), .int .i16 0, .int .i16 (-1), .map none] 55
  have hbel := hb1.alloc z1 (.cells [.int .i16 0, .int .i64 0, .int .i16 0, .int .i32 0, .int .i8 0, .slice none 0 0, .int .i64 0, .int .i64 0, .int .i64 (-1), .int .i64 (-1), .int .i16 0, .int .i16 (-1), .map none].toArray 55)
  generalize (w1.alloc (.cells [.int .i16 0, .int .i64 0, .int .i16 0, .int .i32 0, .int .i8 0, .slice none 0 0, .int .i64 0, .int .i64 0, .int .i64 (-1), .int .i64 (-1), .int .i16 0, .int .i16 (-1), .map none].toArray 55)) = w2 at *
  have Z := Lib.hid (And.intro hB hbel)
  clear hB hbel hb1
  refine wpl_append_from bt rfl _ _ rfl (w1.heap.size + 1) [] (World.ownsRow_nil ..) (by have := Z.out.1.lt; omega) bs (Src.ofRB Tryz.underlying22 (H.out.1.keeps (Keeps.of_below Z.out.2 (Nat.le_refl _)))) (by have := H.out.2.1; simp; omega) ?_
  intro v3 w3 hown3 hbel3
  rw [List.nil_append] at hown3
  obtain ⟨ya, yc, hv3⟩ := own_shape hown3
  have hB3 : Blk w3 w1.heap.size [.int .i16 0, .int .i64 0, .int .i16 0, .int .i32 0, .int .i8 0, .slice none 0 0, .int .i64 0, .int .i64 0, .int .i64 (-1), .int .i64 (-1), .int .i16 0, .int .i16 (-1), .map none] 55 := Z.out.1.below hbel3 (by omega)
  have hE3 : w3.cell? ⟨1, 0, none⟩ = some (.iface tE vE) := ((Z.out.2.trans (hbel3.mono (by omega))).cell (p := ⟨1, 0, none⟩) H.out.2.2.2.1).trans H.out.2.2.1
  have C := Lib.hid (readF (.iface tE vE) tE vE rfl w3 w1.heap.size v3 bs H.out.2.2.2.2 hB3 (hown3.rb [w1.heap.size] (by simp)) H.out.2.1 hE3 (by have := H.out.2.2.2.1; omega))
  have Y := Lib.hid (And.intro hbel3 hB3)
  generalize bs.length = yn at hv3
  subst hv3
  clear hown3 hbel3 hB3 hE3
  go_wp2_with fail
  refine C.out.mono ?_
  intro e w4 hp
  obtain ⟨rfl, hk4, hg4⟩ := hp
  have b34 : Below w.heap.size w3 w4 := hk4.below (by have := Y.out.2.lt; omega) (by simp; omega)
  have b04 : Below w.heap.size w w4 := (Z.out.2.trans (Y.out.1.mono (by omega))).trans b34
  cases hrd : rdK (fun ver => hasV 1 none ver) schTxnMetadataValueR bs with
  | none =>
    have HN := Lib.hid (And.intro hrd b04)
    clear C hk4 hg4 hrd b34 b04
    simp only [Option.isSome_none, Bool.false_eq_true, if_false]
    go_wp2
    go_ret2
    exact ⟨HN.out.2, fun _ => rfl, fun ver v r hx => by rw [HN.out.1] at hx; cases hx⟩
  | some q =>
    obtain ⟨⟨ver, gv⟩, r⟩ := q
    obtain ⟨hrep, hver⟩ := hg4 ver gv r hrd
    obtain ⟨hv1, hv2, r', hr'⟩ := rdK_ver hrd
    have hv0 : 0 ≤ ver := H.out.2.2.2.2 ver r' hr'
    have hap : ap ver ((fun ver => hasV 1 none ver) ver) schTxnMetadataValue (.cons (.int ver) gv) = be16 ver ++ ap ver ((fun ver => hasV 1 none ver) ver) schTxnMetadataValueR gv := apK hv0
    have hal : (ap ver ((fun ver => hasV 1 none ver) ver) schTxnMetadataValue (.cons (.int ver) gv)).length ≤ lim := by rw [hap]; exact HAP.out ver gv r hrd
    have C2 := Lib.hid (appendTxnMetadataValue w4 ver (hasV0 hv0) w1.heap.size 0 (.cons (.int ver) gv) hver (repK hrep hver hv1 hv2) hal)
    have HS := Lib.hid (And.intro hrd (And.intro b04 hap))
    clear C hk4 hg4 hrd b34 b04 hrep hver hal hap
    simp only [Option.isSome_some, if_true]
    go_wp2_with fail
    refine C2.out.mono ?_
    rintro e w5 ⟨x, rfl, hown5, hb5⟩
    have X5 := Lib.hid (And.intro hown5 hb5)
    clear C2 hown5 hb5
    go_wp2
    go_ret2
    refine ⟨HS.out.2.1.trans (X5.out.2.mono HS.out.2.1.size), fun hx => (by rw [HS.out.1] at hx; cases hx), fun ver' v r hx => ?_⟩
    rw [HS.out.1] at hx
    cases hx
    refine ⟨_, rfl, ?_⟩
    have := X5.out.1.mono HS.out.2.1.size
    rwa [HS.out.2.2] at this


theorem agr (ver : Int) (h0 : 0 ≤ ver) (h1 : ver ≤ 1) : agM ver (hasV 1 none ver) schTxnMetadataValueR fs7 = true := by
  have h : ver = 0 ∨ ver = 1 := by omega
  rcases h with rfl | rfl
  all_goals decide +kernel
theorem keep5 {n g : Nat} {w w' : World} {v0 v1 v2 v3 v4 : Value} (hb : Below n w w') (hg : g < n) (h : w.cell? ⟨g, 0, none⟩ = some v0 ∧ w.cell? ⟨g, 1, none⟩ = some v1 ∧ w.cell? ⟨g, 2, none⟩ = some v2 ∧ w.cell? ⟨g, 3, none⟩ = some v3 ∧ w.cell? ⟨g, 4, none⟩ = some v4) :
    w'.cell? ⟨g, 0, none⟩ = some v0 ∧ w'.cell? ⟨g, 1, none⟩ = some v1 ∧ w'.cell? ⟨g, 2, none⟩ = some v2 ∧ w'.cell? ⟨g, 3, none⟩ = some v3 ∧ w'.cell? ⟨g, 4, none⟩ = some v4 :=
  ⟨(hb.cell (p := ⟨g, 0, none⟩) hg).trans h.1, (hb.cell (p := ⟨g, 1, none⟩) hg).trans h.2.1, (hb.cell (p := ⟨g, 2, none⟩) hg).trans h.2.2.1, (hb.cell (p := ⟨g, 3, none⟩) hg).trans h.2.2.2.1, (hb.cell (p := ⟨g, 4, none⟩) hg).trans h.2.2.2.2⟩

set_option maxRecDepth 100000 in
set_option maxHeartbeats 6400000 in
theorem law (n : Int) (h0 : 0 ≤ n) (h1 : n ≤ 255) (tE : TypeId) (vE : Value) (w : World) (c : List Value) (t : Tree) (ht : RepT w.heap.size w c t) (hE : w.cell? ⟨1, 0, none⟩ = some (.iface tE vE))
    (hsz : ∀ ver : Int, (fixed ver 2 ++ pPartT ver (hasV 1 none ver) fs7 t).length ≤ lim) : Calls Tryz.prog 3 #[.int .u8 n, .agg c.toArray] w fun e w' => e = .returned (.bool true) ∧ Below w.heap.size w w' := by
  obtain ⟨ver, hv⟩ : ∃ ver, n % 2 = ver := ⟨_, rfl⟩
  have hv0 : 0 ≤ ver := by omega
  have hv1 : ver ≤ 1 := by omega
  have hlen := hsz ver
  have hvw : (IntKind.i64.wrap n).tmod 2 = ver := by
    have e : IntKind.i64.wrap n = n := by rw [IntKind.wrap_i64]; omega
    rw [e, Int.tmod_eq_emod_of_nonneg h0]
    exact hv
  obtain ⟨gv, hrd, hgap, hcut⟩ := treeRdKT (fl := (fun ver => hasV 1 none ver)) hv0 (by omega) (ok ver hv0 hv1) (agr ver hv0 hv1) (by decide +kernel) t ht.tw (fun _ k x hx => Nat.le_trans (pOne_num fsNum x hx) (by decide))
  obtain ⟨bs, hbs⟩ : ∃ bs, fixed ver 2 ++ pPartT ver (hasV 1 none ver) fs7 t = bs := ⟨_, rfl⟩
  have hpos : 2 ≤ bs.length := by rw [← hbs, List.length_append, show (fixed ver 2).length = 2 by simp [fixed, be16]]; omega
  have hgl := World.block_lt_of_cell? w _ hE
  have hb1 := (Below.refl w.heap.size w).alloc (Nat.le_refl _)
  obtain ⟨sv, lv, uv, rfl, -, ⟨sa, sc, rfl, -⟩, ⟨la, lc, lf, rfl, -⟩, ⟨ua, uc, rfl, -⟩⟩ := ht.parts
  have hb1 := hb1 (.cells #[.int .i64 t.n, .slice sa t.s.length sc, .bool t.null, .slice la t.l.length lc, .slice ua t.u.length uc] 26)
  have hs1 : (w.alloc (.cells #[.int .i64 t.n, .slice sa t.s.length sc, .bool t.null, .slice la t.l.length lc, .slice ua t.u.length uc] 26)).heap.size = w.heap.size + 1 := by simp
  have hbx := Blk.alloc_new w [.int .i64 t.n, .slice sa t.s.length sc, .bool t.null, .slice la t.l.length lc, .slice ua t.u.length uc] 26
  have H := Lib.hid (And.intro ht (And.intro hE (And.intro hgl (And.intro hb1 hbx))))
  have K := Lib.hid (And.intro hrd (And.intro hgap (And.intro hcut hbs)))
  have hlb : bs.length ≤ lim := by rw [← hbs]; exact hlen
  have hlo : ∀ l : List UInt8, l <+: bs → ∀ n r, rdInt 2 32768 l = some (n, r) → 0 ≤ n := fun l hl n r h => by
    obtain ⟨s, rfl⟩ := hl
    have h1 := (Mono.int 2 32768) l _ _ s h
    have h2 : rdInt 2 32768 (fixed ver 2 ++ pPartT ver (hasV 1 none ver) fs7 t) = some (ver, pPartT ver (hasV 1 none ver) fs7 t) := by
      rw [show fixed ver 2 = be16 ver by simp [fixed]]
      exact Exact.int2 (by omega) (by omega) _
    rw [← hbs, h2] at h1
    have h3 : ver = n := congrArg Prod.fst (Option.some.inj h1)
    omega
  have HL := Lib.hid hlo
  clear ht hE hgl hb1 hbx hrd hgap hcut hbs hsz hlen hlo
  go_enter Tryz.func3, Tryz.ntmps3
  go_wp2_with fail
  refine (zFits2 t _ w.heap.size (w.alloc (.cells #[.int .i64 t.n, .slice sa t.s.length sc, .bool t.null, .slice la t.l.length lc, .slice ua t.u.length uc] 26)).heap.size (w.alloc (.cells #[.int .i64 t.n, .slice sa t.s.length sc, .bool t.null, .slice la t.l.length lc, .slice ua t.u.length uc] 26)) (by omega) (Nat.le_refl _) (H.out.1.keep H.out.2.2.2.1)).mono ?_
  rintro e w2 ⟨⟨b, rfl⟩, hb2⟩
  have hb2' : Below w.heap.size w w2 := H.out.2.2.2.1.trans (hb2.mono (by omega))
  have z2 := hb2.size
  obtain ⟨t0, t1, t2, t3, t4⟩ := boxT (H.out.2.2.2.2.below hb2 (by omega))
  have Z2 := Lib.hid hb2'
  clear hb2 hb2'
  cases b
  · go_wp2
    go_ret
    exact ⟨rfl, Z2.out⟩
  have c : w2.drew.cell? ⟨w.heap.size, 0, none⟩ = some (.int .i64 t.n) ∧ w2.drew.cell? ⟨w.heap.size, 1, none⟩ = some (.slice sa t.s.length sc) ∧ w2.drew.cell? ⟨w.heap.size, 2, none⟩ = some (.bool t.null) ∧ w2.drew.cell? ⟨w.heap.size, 3, none⟩ = some (.slice la t.l.length lc) ∧ w2.drew.cell? ⟨w.heap.size, 4, none⟩ = some (.slice ua t.u.length uc) := ⟨t0, t1, t2, t3, t4⟩
  have hC := Lib.hid c
  have Z3 := Lib.hid (And.intro Z2.out.drew z2)
  clear c t0 t1 t2 t3 t4
  go_wp2_with fail
  go_region_held3 (fun w' => w'.cell? ⟨w.heap.size, 0, none⟩ = some (.int .i64 t.n) ∧ w'.cell? ⟨w.heap.size, 1, none⟩ = some (.slice sa t.s.length sc) ∧ w'.cell? ⟨w.heap.size, 2, none⟩ = some (.bool t.null) ∧ w'.cell? ⟨w.heap.size, 3, none⟩ = some (.slice la t.l.length lc) ∧ w'.cell? ⟨w.heap.size, 4, none⟩ = some (.slice ua t.u.length uc))
    (first | exact hC.out | exact hS5 | exact hS6)
    (first
      | (go_at_call 7; refine (gives7 _).mono ?_; rintro e w5 ⟨fv, rfl, hf, hb5⟩; have hS5 := keep5 hb5 (by show w.heap.size < w2.heap.size; omega) hC.out; have z5 := hb5.size; have z5 : w2.heap.size ≤ w5.heap.size := z5; obtain ⟨fa, fcap, rfl, -⟩ := id hf; have b05 : Below w.heap.size w w5 := Z3.out.1.trans (hb5.mono (by show w.heap.size ≤ w2.heap.size; omega)))
      | (go_at_call 6; (try rw [hvw]); refine (spKeptT fs7 fsTag fsKind fsSub ver 1 t (hasV 1 none ver) (fsLen ver t) (fsCont ver t) (by simp [hasV]) w5.heap.size w5.heap.size w5 _ _ (Nat.le_refl _) (Nat.le_refl _) hf ((H.out.1.keep b05).upB (by omega)) (by rw [K.out.2.2.2]; exact hlb)).mono ?_; rintro e w6 ⟨x6, rfl, hown6, hb6⟩; have hS6 := keep5 hb6 (by omega) hS5; have z6 := hb6.size))
  rw [K.out.2.2.2] at hown6
  have b06 : Below w.heap.size w w6 := b05.trans (hb6.mono (by omega))
  have hE6 : w6.cell? ⟨1, 0, none⟩ = some (.iface tE vE) := (b06.cell (p := ⟨1, 0, none⟩) H.out.2.2.1).trans H.out.2.1
  have hrd : rdK (fun ver => hasV 1 none ver) schTxnMetadataValueR bs = some ((ver, gv), []) := by rw [← K.out.2.2.2]; exact K.out.1
  have HAP : ∀ ver' gv' r, rdK (fun ver => hasV 1 none ver) schTxnMetadataValueR bs = some ((ver', gv'), r) → (be16 ver' ++ ap ver' ((fun ver => hasV 1 none ver) ver') schTxnMetadataValueR gv').length ≤ lim := by
    intro ver' gv' r hx
    rw [hrd] at hx
    cases hx
    have := K.out.2.1
    rw [K.out.2.2.2] at this
    exact Nat.le_trans (Nat.le_of_eq (congrArg List.length this)) hlb
  have C7 := Lib.hid (again tE vE w6 x6 bs (HL.out bs (List.prefix_refl _)) (hown6.rb [] (by simp)) hlb HAP hE6)
  obtain ⟨xa, xcap, hx6⟩ := own_shape hown6
  have Z6 := Lib.hid (And.intro hown6 (And.intro b06 (And.intro hrd (And.intro HAP hE6))))
  obtain ⟨L, hL⟩ : ∃ L, bs.length = L := ⟨_, rfl⟩
  rw [hL] at hx6
  subst hx6
  clear hown6 b06 hb6 hS5 hS6 hE6 hrd HAP hf hb5 b05
  go_wp2_with fail
  refine C7.out.mono ?_
  intro e w7 hp
  obtain ⟨b67, -, hg⟩ := hp
  obtain ⟨y, rfl, hown7⟩ := hg ver gv [] Z6.out.2.2.1
  have hap7 : be16 ver ++ ap ver ((fun ver => hasV 1 none ver) ver) schTxnMetadataValueR gv = bs := by rw [← K.out.2.2.2]; exact K.out.2.1
  rw [hap7] at hown7
  have z7 := b67.size
  have hx7 : Own w5.heap.size w7 (.slice xa L xcap) bs := Z6.out.1.stay b67 (Nat.le_refl _)
  have C8 := Lib.hid (sameOK bs y _ w7.heap.size w7.heap.size w7 (Nat.le_refl _) hown7.rl' hx7.rl' (Nat.le_refl _))
  obtain ⟨ya, yc, hy⟩ := own_shape hown7
  rw [hL] at hy
  subst hy
  have B7 := Lib.hid (Z6.out.2.1.trans (b67.mono Z6.out.2.1.size))
  clear b67 hg hown7 hx7 C7
  go_wp2_with fail
  refine C8.out.mono ?_
  rintro e w8 ⟨rfl, b78⟩
  have B8 := Lib.hid (B7.out.trans (b78.mono B7.out.size))
  clear b78
  go_wp2
  go_ret
  exact ⟨rfl, B8.out⟩

end Go.Proofs.YtmpilpgabelmiaaGreatDoor.againTxnMetadataValue
