/- What the reference writes of a VoteResponse is read and written again: cut short it is an error. Printed by againgen.py. -/
import Derived.Test.YtmpilpgabelmiaaGreatDoorVf
import Derived.Test.YtmpilpgabelmiaaGreatDoorVh
import Derived.Test.YtmpilpgabelmiaaGreatDoorReadV
import Derived.Test.YtmpilpgabelmiaaGreatDoorVk
import Derived.Test.YtmpilpgabelmiaaGreatDoorVl
namespace Go.Proofs.YtmpilpgabelmiaaGreatDoor.cutVoteResponse
open Go Go.RowKit
set_option linter.unusedVariables false
def fs54 : PFs := (.cons 3 0 (-1) (-1) (-1) 0 0 .nil (.cons 2 0 (-1) (-1) (-1) 0 0 .nil (.cons 3 0 (-1) (-1) (-1) 0 0 .nil (.cons 3 0 (-1) (-1) (-1) 0 0 .nil (.cons 0 0 (-1) (-1) (-1) 0 0 .nil .nil)))))
def fs24 : PFs := (.cons 8 0 (-1) (-1) (-1) 0 0 .nil (.cons 11 0 (-1) (-1) (-1) 0 10 fs54 .nil))
def fs25 : PFs := (.cons 3 1 (-1) (-1) (-1) 0 0 .nil (.cons 8 1 (-1) (-1) (-1) 0 0 .nil (.cons 5 1 (-1) (-1) (-1) 0 0 .nil .nil)))
def fs12 : PFs := (.cons 2 0 (-1) (-1) (-1) 0 0 .nil (.cons 11 0 (-1) (-1) (-1) 0 10 fs24 (.cons 11 0 (-1) (-1) 0 0 10 fs25 .nil)))
set_option maxRecDepth 100000 in
set_option maxHeartbeats 1600000 in
theorem gives54 : GivesF 54 fs54 := by
  intro w0
  have hbt := Below.refl w0.heap.size w0
  go_enter Tryz.func54, Tryz.ntmps54
  go_wp2_with fail
  have hB := Blk.alloc_new w0 [.int .i64 3, .int .i64 0, .int .i64 (-1), .int .i64 (-1), .int .i64 (-1), .int .i64 0, .int .i64 0, .slice none 0 0, .int .i64 2, .int .i64 0, .int .i64 (-1), .int .i64 (-1), .int .i64 (-1), .int .i64 0, .int .i64 0, .slice none 0 0, .int .i64 3, .int .i64 0, .int .i64 (-1), .int .i64 (-1), .int .i64 (-1), .int .i64 0, .int .i64 0, .slice none 0 0, .int .i64 3, .int .i64 0, .int .i64 (-1), .int .i64 (-1), .int .i64 (-1), .int .i64 0, .int .i64 0, .slice none 0 0, .int .i64 0, .int .i64 0, .int .i64 (-1), .int .i64 (-1), .int .i64 (-1), .int .i64 0, .int .i64 0, .slice none 0 0] 45
  have hbf := (Below.refl w0.heap.size w0).alloc (Nat.le_refl _) (.cells [.int .i64 3, .int .i64 0, .int .i64 (-1), .int .i64 (-1), .int .i64 (-1), .int .i64 0, .int .i64 0, .slice none 0 0, .int .i64 2, .int .i64 0, .int .i64 (-1), .int .i64 (-1), .int .i64 (-1), .int .i64 0, .int .i64 0, .slice none 0 0, .int .i64 3, .int .i64 0, .int .i64 (-1), .int .i64 (-1), .int .i64 (-1), .int .i64 0, .int .i64 0, .slice none 0 0, .int .i64 3, .int .i64 0, .int .i64 (-1), .int .i64 (-1), .int .i64 (-1), .int .i64 0, .int .i64 0, .slice none 0 0, .int .i64 0, .int .i64 0, .int .i64 (-1), .int .i64 (-1), .int .i64 (-1), .int .i64 0, .int .i64 0, .slice none 0 0].toArray 45)
  have hbt2 := hbt.trans (hbf.mono hbt.size)
  have hzz : w0.heap.size < (w0.alloc (.cells [.int .i64 3, .int .i64 0, .int .i64 (-1), .int .i64 (-1), .int .i64 (-1), .int .i64 0, .int .i64 0, .slice none 0 0, .int .i64 2, .int .i64 0, .int .i64 (-1), .int .i64 (-1), .int .i64 (-1), .int .i64 0, .int .i64 0, .slice none 0 0, .int .i64 3, .int .i64 0, .int .i64 (-1), .int .i64 (-1), .int .i64 (-1), .int .i64 0, .int .i64 0, .slice none 0 0, .int .i64 3, .int .i64 0, .int .i64 (-1), .int .i64 (-1), .int .i64 (-1), .int .i64 0, .int .i64 0, .slice none 0 0, .int .i64 0, .int .i64 0, .int .i64 (-1), .int .i64 (-1), .int .i64 (-1), .int .i64 0, .int .i64 0, .slice none 0 0].toArray 45)).heap.size := by simp
  have hR : RepF (w0.alloc (.cells [.int .i64 3, .int .i64 0, .int .i64 (-1), .int .i64 (-1), .int .i64 (-1), .int .i64 0, .int .i64 0, .slice none 0 0, .int .i64 2, .int .i64 0, .int .i64 (-1), .int .i64 (-1), .int .i64 (-1), .int .i64 0, .int .i64 0, .slice none 0 0, .int .i64 3, .int .i64 0, .int .i64 (-1), .int .i64 (-1), .int .i64 (-1), .int .i64 0, .int .i64 0, .slice none 0 0, .int .i64 3, .int .i64 0, .int .i64 (-1), .int .i64 (-1), .int .i64 (-1), .int .i64 0, .int .i64 0, .slice none 0 0, .int .i64 0, .int .i64 0, .int .i64 (-1), .int .i64 (-1), .int .i64 (-1), .int .i64 0, .int .i64 0, .slice none 0 0].toArray 45)).heap.size (w0.alloc (.cells [.int .i64 3, .int .i64 0, .int .i64 (-1), .int .i64 (-1), .int .i64 (-1), .int .i64 0, .int .i64 0, .slice none 0 0, .int .i64 2, .int .i64 0, .int .i64 (-1), .int .i64 (-1), .int .i64 (-1), .int .i64 0, .int .i64 0, .slice none 0 0, .int .i64 3, .int .i64 0, .int .i64 (-1), .int .i64 (-1), .int .i64 (-1), .int .i64 0, .int .i64 0, .slice none 0 0, .int .i64 3, .int .i64 0, .int .i64 (-1), .int .i64 (-1), .int .i64 (-1), .int .i64 0, .int .i64 0, .slice none 0 0, .int .i64 0, .int .i64 0, .int .i64 (-1), .int .i64 (-1), .int .i64 (-1), .int .i64 0, .int .i64 0, .slice none 0 0].toArray 45)) fs54 (.slice (some ⟨w0.heap.size, 0, none⟩) 5 5) := ⟨some ⟨w0.heap.size, 0, none⟩, 5, rfl, by decide, fun _ => ⟨_, 0, rfl, hzz, ⟨⟨hB.cell_some rfl, hB.cell_some rfl, hB.cell_some rfl, hB.cell_some rfl, hB.cell_some rfl, hB.cell_some rfl, hB.cell_some rfl⟩, ⟨_, hB.cell_some rfl, ⟨none, 0, rfl, by decide, fun h => absurd rfl h⟩⟩, ⟨⟨hB.cell_some rfl, hB.cell_some rfl, hB.cell_some rfl, hB.cell_some rfl, hB.cell_some rfl, hB.cell_some rfl, hB.cell_some rfl⟩, ⟨_, hB.cell_some rfl, ⟨none, 0, rfl, by decide, fun h => absurd rfl h⟩⟩, ⟨⟨hB.cell_some rfl, hB.cell_some rfl, hB.cell_some rfl, hB.cell_some rfl, hB.cell_some rfl, hB.cell_some rfl, hB.cell_some rfl⟩, ⟨_, hB.cell_some rfl, ⟨none, 0, rfl, by decide, fun h => absurd rfl h⟩⟩, ⟨⟨hB.cell_some rfl, hB.cell_some rfl, hB.cell_some rfl, hB.cell_some rfl, hB.cell_some rfl, hB.cell_some rfl, hB.cell_some rfl⟩, ⟨_, hB.cell_some rfl, ⟨none, 0, rfl, by decide, fun h => absurd rfl h⟩⟩, ⟨⟨hB.cell_some rfl, hB.cell_some rfl, hB.cell_some rfl, hB.cell_some rfl, hB.cell_some rfl, hB.cell_some rfl, hB.cell_some rfl⟩, ⟨_, hB.cell_some rfl, ⟨none, 0, rfl, by decide, fun h => absurd rfl h⟩⟩, trivial⟩⟩⟩⟩⟩⟩⟩
  have Z := Lib.hid (And.intro hR hbt2)
  clear hB hR hbf hbt hbt2 hzz
  go_ret
  exact ⟨_, rfl, Z.out.1, Z.out.2⟩
set_option maxRecDepth 100000 in
set_option maxHeartbeats 1600000 in
theorem gives24 : GivesF 24 fs24 := by
  intro w0
  have hbt := Below.refl w0.heap.size w0
  go_enter Tryz.func24, Tryz.ntmps24
  go_wp2_with fail
  refine (gives54 _).mono ?_
  rintro e w1 ⟨v1, rfl, hv1, hb1⟩
  obtain ⟨a1, c1, rfl, -⟩ := id hv1
  have z1 := hb1.size
  have hbt := hbt.trans (hb1.mono (by first | exact Nat.le_refl _ | exact hbt.size | omega))
  clear hb1
  have hB := Blk.alloc_new w1 [.int .i64 8, .int .i64 0, .int .i64 (-1), .int .i64 (-1), .int .i64 (-1), .int .i64 0, .int .i64 0, .slice none 0 0, .int .i64 11, .int .i64 0, .int .i64 (-1), .int .i64 (-1), .int .i64 (-1), .int .i64 0, .int .i64 10, .slice a1 fs54.len c1] 45
  have hbf := (Below.refl w1.heap.size w1).alloc (Nat.le_refl _) (.cells [.int .i64 8, .int .i64 0, .int .i64 (-1), .int .i64 (-1), .int .i64 (-1), .int .i64 0, .int .i64 0, .slice none 0 0, .int .i64 11, .int .i64 0, .int .i64 (-1), .int .i64 (-1), .int .i64 (-1), .int .i64 0, .int .i64 10, .slice a1 fs54.len c1].toArray 45)
  have hbt2 := hbt.trans (hbf.mono hbt.size)
  have hzz : w1.heap.size < (w1.alloc (.cells [.int .i64 8, .int .i64 0, .int .i64 (-1), .int .i64 (-1), .int .i64 (-1), .int .i64 0, .int .i64 0, .slice none 0 0, .int .i64 11, .int .i64 0, .int .i64 (-1), .int .i64 (-1), .int .i64 (-1), .int .i64 0, .int .i64 10, .slice a1 fs54.len c1].toArray 45)).heap.size := by simp
  have hv1 := hv1.up hbf (Nat.le_of_lt hzz)
  have hR : RepF (w1.alloc (.cells [.int .i64 8, .int .i64 0, .int .i64 (-1), .int .i64 (-1), .int .i64 (-1), .int .i64 0, .int .i64 0, .slice none 0 0, .int .i64 11, .int .i64 0, .int .i64 (-1), .int .i64 (-1), .int .i64 (-1), .int .i64 0, .int .i64 10, .slice a1 fs54.len c1].toArray 45)).heap.size (w1.alloc (.cells [.int .i64 8, .int .i64 0, .int .i64 (-1), .int .i64 (-1), .int .i64 (-1), .int .i64 0, .int .i64 0, .slice none 0 0, .int .i64 11, .int .i64 0, .int .i64 (-1), .int .i64 (-1), .int .i64 (-1), .int .i64 0, .int .i64 10, .slice a1 fs54.len c1].toArray 45)) fs24 (.slice (some ⟨w1.heap.size, 0, none⟩) 2 2) := ⟨some ⟨w1.heap.size, 0, none⟩, 2, rfl, by decide, fun _ => ⟨_, 0, rfl, hzz, ⟨⟨hB.cell_some rfl, hB.cell_some rfl, hB.cell_some rfl, hB.cell_some rfl, hB.cell_some rfl, hB.cell_some rfl, hB.cell_some rfl⟩, ⟨_, hB.cell_some rfl, ⟨none, 0, rfl, by decide, fun h => absurd rfl h⟩⟩, ⟨⟨hB.cell_some rfl, hB.cell_some rfl, hB.cell_some rfl, hB.cell_some rfl, hB.cell_some rfl, hB.cell_some rfl, hB.cell_some rfl⟩, ⟨_, hB.cell_some rfl, hv1⟩, trivial⟩⟩⟩⟩
  have Z := Lib.hid (And.intro hR hbt2)
  clear hB hR hbf hbt hbt2 hzz hv1
  go_wp2
  go_ret
  exact ⟨_, rfl, Z.out.1, Z.out.2⟩
set_option maxRecDepth 100000 in
set_option maxHeartbeats 1600000 in
theorem gives25 : GivesF 25 fs25 := by
  intro w0
  have hbt := Below.refl w0.heap.size w0
  go_enter Tryz.func25, Tryz.ntmps25
  go_wp2_with fail
  have hB := Blk.alloc_new w0 [.int .i64 3, .int .i64 1, .int .i64 (-1), .int .i64 (-1), .int .i64 (-1), .int .i64 0, .int .i64 0, .slice none 0 0, .int .i64 8, .int .i64 1, .int .i64 (-1), .int .i64 (-1), .int .i64 (-1), .int .i64 0, .int .i64 0, .slice none 0 0, .int .i64 5, .int .i64 1, .int .i64 (-1), .int .i64 (-1), .int .i64 (-1), .int .i64 0, .int .i64 0, .slice none 0 0] 45
  have hbf := (Below.refl w0.heap.size w0).alloc (Nat.le_refl _) (.cells [.int .i64 3, .int .i64 1, .int .i64 (-1), .int .i64 (-1), .int .i64 (-1), .int .i64 0, .int .i64 0, .slice none 0 0, .int .i64 8, .int .i64 1, .int .i64 (-1), .int .i64 (-1), .int .i64 (-1), .int .i64 0, .int .i64 0, .slice none 0 0, .int .i64 5, .int .i64 1, .int .i64 (-1), .int .i64 (-1), .int .i64 (-1), .int .i64 0, .int .i64 0, .slice none 0 0].toArray 45)
  have hbt2 := hbt.trans (hbf.mono hbt.size)
  have hzz : w0.heap.size < (w0.alloc (.cells [.int .i64 3, .int .i64 1, .int .i64 (-1), .int .i64 (-1), .int .i64 (-1), .int .i64 0, .int .i64 0, .slice none 0 0, .int .i64 8, .int .i64 1, .int .i64 (-1), .int .i64 (-1), .int .i64 (-1), .int .i64 0, .int .i64 0, .slice none 0 0, .int .i64 5, .int .i64 1, .int .i64 (-1), .int .i64 (-1), .int .i64 (-1), .int .i64 0, .int .i64 0, .slice none 0 0].toArray 45)).heap.size := by simp
  have hR : RepF (w0.alloc (.cells [.int .i64 3, .int .i64 1, .int .i64 (-1), .int .i64 (-1), .int .i64 (-1), .int .i64 0, .int .i64 0, .slice none 0 0, .int .i64 8, .int .i64 1, .int .i64 (-1), .int .i64 (-1), .int .i64 (-1), .int .i64 0, .int .i64 0, .slice none 0 0, .int .i64 5, .int .i64 1, .int .i64 (-1), .int .i64 (-1), .int .i64 (-1), .int .i64 0, .int .i64 0, .slice none 0 0].toArray 45)).heap.size (w0.alloc (.cells [.int .i64 3, .int .i64 1, .int .i64 (-1), .int .i64 (-1), .int .i64 (-1), .int .i64 0, .int .i64 0, .slice none 0 0, .int .i64 8, .int .i64 1, .int .i64 (-1), .int .i64 (-1), .int .i64 (-1), .int .i64 0, .int .i64 0, .slice none 0 0, .int .i64 5, .int .i64 1, .int .i64 (-1), .int .i64 (-1), .int .i64 (-1), .int .i64 0, .int .i64 0, .slice none 0 0].toArray 45)) fs25 (.slice (some ⟨w0.heap.size, 0, none⟩) 3 3) := ⟨some ⟨w0.heap.size, 0, none⟩, 3, rfl, by decide, fun _ => ⟨_, 0, rfl, hzz, ⟨⟨hB.cell_some rfl, hB.cell_some rfl, hB.cell_some rfl, hB.cell_some rfl, hB.cell_some rfl, hB.cell_some rfl, hB.cell_some rfl⟩, ⟨_, hB.cell_some rfl, ⟨none, 0, rfl, by decide, fun h => absurd rfl h⟩⟩, ⟨⟨hB.cell_some rfl, hB.cell_some rfl, hB.cell_some rfl, hB.cell_some rfl, hB.cell_some rfl, hB.cell_some rfl, hB.cell_some rfl⟩, ⟨_, hB.cell_some rfl, ⟨none, 0, rfl, by decide, fun h => absurd rfl h⟩⟩, ⟨⟨hB.cell_some rfl, hB.cell_some rfl, hB.cell_some rfl, hB.cell_some rfl, hB.cell_some rfl, hB.cell_some rfl, hB.cell_some rfl⟩, ⟨_, hB.cell_some rfl, ⟨none, 0, rfl, by decide, fun h => absurd rfl h⟩⟩, trivial⟩⟩⟩⟩⟩
  have Z := Lib.hid (And.intro hR hbt2)
  clear hB hR hbf hbt hbt2 hzz
  go_ret
  exact ⟨_, rfl, Z.out.1, Z.out.2⟩
set_option maxRecDepth 100000 in
set_option maxHeartbeats 1600000 in
theorem gives12 : GivesM 12 fs12 0 := by
  intro w0
  have hM := Blk.alloc_new w0 [.slice none 0 0, .int .i64 0] 31
  have hbt := (Below.refl w0.heap.size w0).alloc (Nat.le_refl _) (.cells #[.slice none 0 0, .int .i64 0] 31)
  have hsz : w0.heap.size + 1 ≤ (w0.alloc (.cells #[.slice none 0 0, .int .i64 0] 31)).heap.size := by simp
  go_enter Tryz.func12, Tryz.ntmps12
  go_wp2_with fail
  refine (gives24 _).mono ?_
  rintro e w1 ⟨v1, rfl, hv1, hb1⟩
  obtain ⟨a1, c1, rfl, -⟩ := id hv1
  have z1 := hb1.size
  have hM := hM.below hb1 (by simp)
  have hsz := Nat.le_trans hsz z1
  have hbt := hbt.trans (hb1.mono (by first | exact Nat.le_refl _ | exact hbt.size | omega))
  clear hb1
  go_wp2_with fail
  refine (gives25 _).mono ?_
  rintro e w2 ⟨v2, rfl, hv2, hb2⟩
  obtain ⟨a2, c2, rfl, -⟩ := id hv2
  have z2 := hb2.size
  have hM := hM.below hb2 (by omega)
  have hsz := Nat.le_trans hsz z2
  have hv1 := hv1.up hb2 z2
  have hbt := hbt.trans (hb2.mono (by first | exact Nat.le_refl _ | exact hbt.size | omega))
  clear hb2
  have hB := Blk.alloc_new w2 [.int .i64 2, .int .i64 0, .int .i64 (-1), .int .i64 (-1), .int .i64 (-1), .int .i64 0, .int .i64 0, .slice none 0 0, .int .i64 11, .int .i64 0, .int .i64 (-1), .int .i64 (-1), .int .i64 (-1), .int .i64 0, .int .i64 10, .slice a1 fs24.len c1, .int .i64 11, .int .i64 0, .int .i64 (-1), .int .i64 (-1), .int .i64 0, .int .i64 0, .int .i64 10, .slice a2 fs25.len c2] 45
  have hbf := (Below.refl w2.heap.size w2).alloc (Nat.le_refl _) (.cells [.int .i64 2, .int .i64 0, .int .i64 (-1), .int .i64 (-1), .int .i64 (-1), .int .i64 0, .int .i64 0, .slice none 0 0, .int .i64 11, .int .i64 0, .int .i64 (-1), .int .i64 (-1), .int .i64 (-1), .int .i64 0, .int .i64 10, .slice a1 fs24.len c1, .int .i64 11, .int .i64 0, .int .i64 (-1), .int .i64 (-1), .int .i64 0, .int .i64 0, .int .i64 10, .slice a2 fs25.len c2].toArray 45)
  have hbt2 := hbt.trans (hbf.mono hbt.size)
  have hzz : w2.heap.size < (w2.alloc (.cells [.int .i64 2, .int .i64 0, .int .i64 (-1), .int .i64 (-1), .int .i64 (-1), .int .i64 0, .int .i64 0, .slice none 0 0, .int .i64 11, .int .i64 0, .int .i64 (-1), .int .i64 (-1), .int .i64 (-1), .int .i64 0, .int .i64 10, .slice a1 fs24.len c1, .int .i64 11, .int .i64 0, .int .i64 (-1), .int .i64 (-1), .int .i64 0, .int .i64 0, .int .i64 10, .slice a2 fs25.len c2].toArray 45)).heap.size := by simp
  have hv1 := hv1.up hbf (Nat.le_of_lt hzz)
  have hv2 := hv2.up hbf (Nat.le_of_lt hzz)
  have hR : RepF (w2.alloc (.cells [.int .i64 2, .int .i64 0, .int .i64 (-1), .int .i64 (-1), .int .i64 (-1), .int .i64 0, .int .i64 0, .slice none 0 0, .int .i64 11, .int .i64 0, .int .i64 (-1), .int .i64 (-1), .int .i64 (-1), .int .i64 0, .int .i64 10, .slice a1 fs24.len c1, .int .i64 11, .int .i64 0, .int .i64 (-1), .int .i64 (-1), .int .i64 0, .int .i64 0, .int .i64 10, .slice a2 fs25.len c2].toArray 45)).heap.size (w2.alloc (.cells [.int .i64 2, .int .i64 0, .int .i64 (-1), .int .i64 (-1), .int .i64 (-1), .int .i64 0, .int .i64 0, .slice none 0 0, .int .i64 11, .int .i64 0, .int .i64 (-1), .int .i64 (-1), .int .i64 (-1), .int .i64 0, .int .i64 10, .slice a1 fs24.len c1, .int .i64 11, .int .i64 0, .int .i64 (-1), .int .i64 (-1), .int .i64 0, .int .i64 0, .int .i64 10, .slice a2 fs25.len c2].toArray 45)) fs12 (.slice (some ⟨w2.heap.size, 0, none⟩) 3 3) := ⟨some ⟨w2.heap.size, 0, none⟩, 3, rfl, by decide, fun _ => ⟨_, 0, rfl, hzz, ⟨⟨hB.cell_some rfl, hB.cell_some rfl, hB.cell_some rfl, hB.cell_some rfl, hB.cell_some rfl, hB.cell_some rfl, hB.cell_some rfl⟩, ⟨_, hB.cell_some rfl, ⟨none, 0, rfl, by decide, fun h => absurd rfl h⟩⟩, ⟨⟨hB.cell_some rfl, hB.cell_some rfl, hB.cell_some rfl, hB.cell_some rfl, hB.cell_some rfl, hB.cell_some rfl, hB.cell_some rfl⟩, ⟨_, hB.cell_some rfl, hv1⟩, ⟨⟨hB.cell_some rfl, hB.cell_some rfl, hB.cell_some rfl, hB.cell_some rfl, hB.cell_some rfl, hB.cell_some rfl, hB.cell_some rfl⟩, ⟨_, hB.cell_some rfl, hv2⟩, trivial⟩⟩⟩⟩⟩
  have Z := Lib.hid (And.intro hR hbt2)
  have hM2 := hM.alloc (.cells [.int .i64 2, .int .i64 0, .int .i64 (-1), .int .i64 (-1), .int .i64 (-1), .int .i64 0, .int .i64 0, .slice none 0 0, .int .i64 11, .int .i64 0, .int .i64 (-1), .int .i64 (-1), .int .i64 (-1), .int .i64 0, .int .i64 10, .slice a1 fs24.len c1, .int .i64 11, .int .i64 0, .int .i64 (-1), .int .i64 (-1), .int .i64 0, .int .i64 0, .int .i64 10, .slice a2 fs25.len c2].toArray 45)
  have hMM := Lib.hid hM2
  have m0 := fun o => (hM.alloc o).cell_some (i := 0) rfl
  have m1 := fun o => (hM.alloc o).cell_some (i := 1) rfl
  have f0 := fun o => (hM.alloc o).frozen 0
  have f1 := fun o => (hM.alloc o).frozen 1
  clear hB hR hbf hbt hbt2 hzz hv1 hv2 hM hM2
  go_wp2
  have hR := Z.out.1
  have hbt := Z.out.2
  have hR1 := hR.other (i := 0) (v := .slice (some ⟨w2.heap.size, 0, none⟩) 3 3) hMM.out
  have hM1 := hMM.out.set 0 (.slice (some ⟨w2.heap.size, 0, none⟩) 3 3)
  have hR2 := hR1.other (i := 1) (v := .int .i64 0) hM1
  have hM2 := hM1.set 1 (.int .i64 0)
  have hbt2 := (hbt.setCell (p := ⟨w0.heap.size, 0, none⟩) (Nat.le_refl _) (.slice (some ⟨w2.heap.size, 0, none⟩) 3 3)).setCell (p := ⟨w0.heap.size, 1, none⟩) (Nat.le_refl _) (.int .i64 0)
  exact ret_msg (fn := Tryz.f12) (g := w0.heap.size) rfl rfl hM2 rfl ⟨_, rfl, by simpa using hR2, hbt2⟩
theorem fsOpt : fs12.noOpt := by simp [PFs.noOpt, fs54, fs24, fs25, fs12]
theorem fsTag : fs12.tagOK := ⟨.inl rfl, trivial, ⟨.inl rfl, (by simp [PFs.noTag, fs54, fs24, fs25]), ⟨.inr ⟨0, rfl, by decide⟩, (by simp [PFs.noTag, fs54, fs24, fs25]), trivial⟩⟩⟩
theorem fsKind : fs12.kindOK := ⟨.inl rfl, ⟨.inl rfl, ⟨.inr (.inr rfl), trivial⟩⟩⟩
theorem fsSub : SubsAll fs12 := subsAllT _ fsTag fsOpt
theorem fsLen (ver : Int) (t : Tree) : (pKn ver true fs12 fs12.known t).length ≤ 1000 := Nat.le_trans (pKn_len _) (by decide +kernel)
set_option maxHeartbeats 800000 in
theorem newPtr (w : World) : Calls Tryz.prog 21 #[] w fun e w' => e = .returned (.pointer (some ⟨w.heap.size, 0, none⟩)) ∧ w' = w.alloc (.cells [.int .i16 0, .int .i16 0, .slice none 0 0, .slice none 0 0, .map none].toArray 88) := by
  go_enter Tryz.func21, Tryz.ntmps21
  go_wp2
  go_end0
  go_wp2
  go_ret
  exact ⟨rfl, rfl⟩
set_option maxHeartbeats 800000 in
theorem setV (w : World) (b : Nat) (x : Value) (c : List Value) (v : Int) (h : Blk w b (x :: c) 88) : Calls Tryz.prog 26 #[.pointer (some ⟨b, 0, none⟩), .int .i16 v] w fun e w' => e = .returned (.tuple #[]) ∧ w' = w.setCell ⟨b, 0, none⟩ (.int .i16 v) := by
  have m := h.cell_some (i := 0) rfl
  have f := h.frozen 0
  go_enter Tryz.func26, Tryz.ntmps26
  go_wp2
  go_end0
  exact ⟨rfl, rfl⟩
theorem hasV0 {ver : Int} (h : 0 ≤ ver) : hasV 0 none ver = true := by simp [hasV, h]
theorem ok (ver : Int) (h0 : 0 ≤ ver) (h1 : ver ≤ 2) : okS ver (hasV 0 none ver) schVoteResponse = true := by
  have h : ver = 0 ∨ ver = 1 ∨ ver = 2 := by omega
  rcases h with rfl | rfl | rfl
  all_goals decide +kernel
theorem fresh (ver : Int) : Fresh [.int .i16 ver, .int .i16 0, .slice none 0 0, .slice none 0 0, .map none] 0 schVoteResponse := by
  unfold schVoteResponse
  simp only [Fresh]
  (repeat' apply And.intro) <;> first | rfl | trivial | exact Nat.le_of_ble_eq_true rfl | (intro i u h; match i, h with | 0, h => (cases h; rfl) | j + 1, h => simp [dcells] at h)
set_option maxHeartbeats 800000 in
theorem maxMsg (w : World) : Calls Tryz.prog 10 #[] w fun e w' => e = .returned (.int .i64 2) ∧ Below w.heap.size w w' := by
  go_enter Tryz.func10, Tryz.ntmps10
  go_wp2_with fail
  refine (newPtr _).mono ?_
  rintro e w1 ⟨rfl, rfl⟩
  have hb := Lib.hid ((Below.refl w.heap.size w).alloc (Nat.le_refl _) (.cells [.int .i16 0, .int .i16 0, .slice none 0 0, .slice none 0 0, .map none].toArray 88))
  go_wp2
  go_ret
  exact ⟨rfl, hb.out⟩
set_option maxHeartbeats 1600000 in
theorem readF (E : Value) (tE : TypeId) (vE : Value) (hEi : E = .iface tE vE) (w : World) (ver : Int) (h0 : 0 ≤ ver) (b : Nat) (src : Value) (bs : List UInt8) (hB : Blk w b [.int .i16 ver, .int .i16 0, .slice none 0 0, .slice none 0 0, .map none] 88) (hs : RB [b] w src bs) (hbs : bs.length ≤ lim) (hkd : KD ver (hasV 0 none ver) schVoteResponse (some bs)) (hE : w.cell? ⟨1, 0, none⟩ = some E) (hgE : 1 ≠ b) :
    Calls Tryz.prog 27 #[.pointer (some ⟨b, 0, none⟩), src] w (ReadPost TagMem E ver (hasV 0 none ver) schVoteResponse b 0 0 bs w) := by
  have C := Lib.hid (readVoteResponse E tE vE hEi w ver (hasV0 h0) b 0 88 [.int .i16 ver, .int .i16 0, .slice none 0 0, .slice none 0 0, .map none] src bs hB (fresh ver) (hB.cell_some rfl) hs hbs hkd hE hgE)
  obtain ⟨sa, sc, rfl, -⟩ : ∃ a cap, src = .slice a bs.length cap ∧ True := by obtain ⟨a, cap, h, -⟩ := hs; exact ⟨a, cap, h, trivial⟩
  clear hB hs hbs hE hkd
  go_enter Tryz.func27, Tryz.ntmps27
  go_wp2_with fail
  refine C.out.mono ?_
  intro e w' hp
  obtain ⟨v, rfl⟩ : ∃ v, e = .returned v := ⟨_, hp.1⟩
  have HP := Lib.hid hp
  clear hp C
  go_wp2
  go_ret
  exact HP.out
set_option maxRecDepth 100000 in
set_option maxHeartbeats 3200000 in
theorem again (ver : Int) (h0 : 0 ≤ ver) (h1 : ver ≤ 2) (tE : TypeId) (vE : Value) (w : World) (src : Value) (bs : List UInt8) (hs : RB [] w src bs) (hbs : bs.length ≤ lim) (hkd : KD ver (hasV 0 none ver) schVoteResponse (some bs)) (hap : ∀ gv r, rd ver (hasV 0 none ver) schVoteResponse bs = some (gv, r) → (ap ver (hasV 0 none ver) schVoteResponse gv).length ≤ lim) (hE : w.cell? ⟨1, 0, none⟩ = some (.iface tE vE)) :
    Calls Tryz.prog 14 #[.int .i64 ver, src] w (AgainPost ver (hasV 0 none ver) schVoteResponse bs w) := by
  have hw : (ver + 32768) % 65536 - 32768 = ver := by omega
  obtain ⟨sa, sc, rfl, -⟩ : ∃ a cap, src = .slice a bs.length cap ∧ True := by obtain ⟨a, cap, h, -⟩ := hs; exact ⟨a, cap, h, trivial⟩
  have hgl := World.block_lt_of_cell? w _ hE
  have H := Lib.hid (And.intro hs (And.intro hbs (And.intro hE hgl)))
  have HAP := Lib.hid hap
  have HKD := Lib.hid hkd
  clear hkd hs hbs hE hgl hap
  go_enter Tryz.func14, Tryz.ntmps14
  go_wp2_with fail
  refine (newPtr _).mono ?_
  rintro e w1 ⟨rfl, rfl⟩
  have hB0 := Blk.alloc_new w [.int .i16 0, .int .i16 0, .slice none 0 0, .slice none 0 0, .map none] 88
  go_wp2_with fail
  refine (setV _ _ _ _ ver hB0).mono ?_
  rintro e w2 ⟨rfl, rfl⟩
  have hB : Blk ((w.alloc (.cells [.int .i16 0, .int .i16 0, .slice none 0 0, .slice none 0 0, .map none].toArray 88)).setCell ⟨w.heap.size, 0, none⟩ (.int .i16 ver)) w.heap.size [.int .i16 ver, .int .i16 0, .slice none 0 0, .slice none 0 0, .map none] 88 := hB0.set 0 (.int .i16 ver)
  have hbel := ((Below.refl w.heap.size w).alloc (Nat.le_refl _) (.cells [.int .i16 0, .int .i16 0, .slice none 0 0, .slice none 0 0, .map none].toArray 88)).setCell (p := ⟨w.heap.size, 0, none⟩) (Nat.le_refl _) (.int .i16 ver)
  generalize (w.alloc (.cells [.int .i16 0, .int .i16 0, .slice none 0 0, .slice none 0 0, .map none].toArray 88)).setCell ⟨w.heap.size, 0, none⟩ (.int .i16 ver) = w2 at *
  have Z := Lib.hid (And.intro hB hbel)
  clear hB hbel hB0
  go_wp2_with (at_builtin; refine halted ?_)
  refine wpl_append_from bt rfl _ _ rfl (w.heap.size + 1) [] (World.ownsRow_nil ..) (by have := Z.out.1.lt; omega) bs (Src.ofRB Tryz.underlying22 (H.out.1.keeps (Keeps.of_below Z.out.2 (Nat.le_refl _)))) (by have := H.out.2.1; simp; omega) ?_
  intro v3 w3 hown3 hbel3
  rw [List.nil_append] at hown3
  obtain ⟨ya, yc, hv3⟩ := own_shape hown3
  have hB3 : Blk w3 w.heap.size [.int .i16 ver, .int .i16 0, .slice none 0 0, .slice none 0 0, .map none] 88 := Z.out.1.below hbel3 (by omega)
  have hE3 : w3.cell? ⟨1, 0, none⟩ = some (.iface tE vE) := ((Z.out.2.trans (hbel3.mono (by omega))).cell (p := ⟨1, 0, none⟩) H.out.2.2.2).trans H.out.2.2.1
  have C := Lib.hid (readF (.iface tE vE) tE vE rfl w3 ver h0 w.heap.size v3 bs hB3 (hown3.rb [w.heap.size] (by simp)) H.out.2.1 HKD.out hE3 (by have := H.out.2.2.2; omega))
  have Y := Lib.hid (And.intro hbel3 hB3)
  generalize bs.length = yn at hv3
  subst hv3
  clear hown3 hbel3 hB3 hE3
  go_wp2_with fail
  refine C.out.mono ?_
  intro e w4 hp
  obtain ⟨rfl, hk4, hg4⟩ := hp
  have b34 : Below w.heap.size w3 w4 := hk4.below (by have := Y.out.2.lt; omega) (by simp)
  have b04 : Below w.heap.size w w4 := (Z.out.2.trans (Y.out.1.mono (by omega))).trans b34
  cases hrd : rd ver (hasV 0 none ver) schVoteResponse bs with
  | none =>
    have HN := Lib.hid (And.intro hrd b04)
    clear C hk4 hg4 hrd b34 b04
    simp only [Option.isSome_none, Bool.false_eq_true, if_false]
    go_wp2
    go_ret2
    exact ⟨HN.out.2, fun _ => rfl, fun v r hx => by rw [HN.out.1] at hx; cases hx⟩
  | some q =>
    obtain ⟨gv, r⟩ := q
    obtain ⟨hrep, hver⟩ := hg4 gv r hrd
    have hal : (ap ver (hasV 0 none ver) schVoteResponse gv).length ≤ lim := HAP.out gv r hrd
    have C2 := Lib.hid (appendVoteResponse w4 ver (hasV0 h0) w.heap.size 0 gv hver hrep hal)
    have HS := Lib.hid (And.intro hrd b04)
    clear C hk4 hg4 hrd b34 b04 hrep hver hal
    simp only [Option.isSome_some, if_true]
    go_wp2_with fail
    refine C2.out.mono ?_
    rintro e w5 ⟨x, rfl, hown5, hb5⟩
    have X5 := Lib.hid (And.intro hown5 hb5)
    clear C2 hown5 hb5
    go_wp2
    go_ret2
    refine ⟨HS.out.2.trans (X5.out.2.mono HS.out.2.size), fun hx => (by rw [HS.out.1] at hx; cases hx), fun v r hx => ?_⟩
    rw [HS.out.1] at hx
    cases hx
    exact ⟨_, rfl, X5.out.1.mono HS.out.2.size⟩


theorem agr (ver : Int) (h0 : 0 ≤ ver) (h1 : ver ≤ 2) : agM ver (hasV 0 none ver) schVoteResponse fs12 = true := by
  have h : ver = 0 ∨ ver = 1 ∨ ver = 2 := by omega
  rcases h with rfl | rfl | rfl
  all_goals decide +kernel
theorem keep5 {n g : Nat} {w w' : World} {v0 v1 v2 v3 v4 : Value} (hb : Below n w w') (hg : g < n) (h : w.cell? ⟨g, 0, none⟩ = some v0 ∧ w.cell? ⟨g, 1, none⟩ = some v1 ∧ w.cell? ⟨g, 2, none⟩ = some v2 ∧ w.cell? ⟨g, 3, none⟩ = some v3 ∧ w.cell? ⟨g, 4, none⟩ = some v4) :
    w'.cell? ⟨g, 0, none⟩ = some v0 ∧ w'.cell? ⟨g, 1, none⟩ = some v1 ∧ w'.cell? ⟨g, 2, none⟩ = some v2 ∧ w'.cell? ⟨g, 3, none⟩ = some v3 ∧ w'.cell? ⟨g, 4, none⟩ = some v4 :=
  ⟨(hb.cell (p := ⟨g, 0, none⟩) hg).trans h.1, (hb.cell (p := ⟨g, 1, none⟩) hg).trans h.2.1, (hb.cell (p := ⟨g, 2, none⟩) hg).trans h.2.2.1, (hb.cell (p := ⟨g, 3, none⟩) hg).trans h.2.2.2.1, (hb.cell (p := ⟨g, 4, none⟩) hg).trans h.2.2.2.2⟩

set_option maxRecDepth 100000 in
set_option maxHeartbeats 6400000 in
theorem law (n : Int) (h0 : 0 ≤ n) (h1 : n ≤ 255) (m : Int) (hm0 : 0 ≤ m) (hm1 : m ≤ 65535) (tE : TypeId) (vE : Value) (w : World) (c : List Value) (t : Tree) (ht : RepT w.heap.size w c t) (hE : w.cell? ⟨1, 0, none⟩ = some (.iface tE vE))
    (hsz : ∀ ver : Int, (pPartT ver (hasV 0 none ver) fs12 t).length ≤ lim) : Calls Tryz.prog 4 #[.int .u8 n, .agg c.toArray, .int .u16 m] w fun e w' => e = .returned (.bool true) ∧ Below w.heap.size w w' := by
  obtain ⟨ver, hv⟩ : ∃ ver, n % (2 + 1) = ver := ⟨_, rfl⟩
  have hv0 : 0 ≤ ver := by omega
  have hv1 : ver ≤ 2 := by omega
  have LV := fun w => versionOK n 2 h0 h1 (by decide) (by decide) w
  rw [hv] at LV
  have LVh := Lib.hid LV
  clear LV hv
  have hlen := hsz ver
  have hFL : (hasV 0 none ver) = true := hasV0 hv0
  have hlen1 : (pPartT ver true fs12 t).length ≤ lim := by rw [← hFL]; exact hlen
  have hxx : (hasV 0 none ver) = true → ∀ k, ∀ x ∈ pOne ver true k fs12 0 t, x.2.length ≤ 4294967295 := fun _ k x hx => Nat.le_trans (pOne_in hx) hlen1
  have HCO := Lib.hid (show ∀ x ∈ pKn ver true fs12 fs12.known t, x.2.length ≤ 4294967295 from fun x hx => Nat.le_trans (pKn_in hx) hlen1)
  have hkd := kdTree (ok ver hv0 hv1) (agr ver hv0 hv1) (by decide +kernel) t ht.tw hxx
  obtain ⟨gv, hrd, hgap, hcut⟩ := (treeRdT (ok ver hv0 hv1) (agr  ver hv0 hv1) (by decide +kernel) t ht.tw hxx).2.2
  obtain ⟨bs, hbs⟩ : ∃ bs, pPartT ver (hasV 0 none ver) fs12 t = bs := ⟨_, rfl⟩
  rw [hbs] at hkd
  have HKD := Lib.hid hkd
  clear hkd hxx hFL hlen1
  have hgl := World.block_lt_of_cell? w _ hE
  have hb1 := (Below.refl w.heap.size w).alloc (Nat.le_refl _)
  obtain ⟨sv, lv, uv, rfl, -, ⟨sa, sc, rfl, -⟩, ⟨la, lc, lf, rfl, -⟩, ⟨ua, uc, rfl, -⟩⟩ := ht.parts
  have hb1 := hb1 (.cells #[.int .i64 t.n, .slice sa t.s.length sc, .bool t.null, .slice la t.l.length lc, .slice ua t.u.length uc] 26)
  have hs1 : (w.alloc (.cells #[.int .i64 t.n, .slice sa t.s.length sc, .bool t.null, .slice la t.l.length lc, .slice ua t.u.length uc] 26)).heap.size = w.heap.size + 1 := by simp
  have hbx := Blk.alloc_new w [.int .i64 t.n, .slice sa t.s.length sc, .bool t.null, .slice la t.l.length lc, .slice ua t.u.length uc] 26
  have H := Lib.hid (And.intro ht (And.intro hE (And.intro hgl (And.intro hb1 hbx))))
  have K := Lib.hid (And.intro hrd (And.intro hgap (And.intro hcut hbs)))
  have hlb : bs.length ≤ lim := by rw [← hbs]; exact hlen
  clear ht hE hgl hb1 hbx hrd hgap hcut hbs hsz hlen
  go_enter Tryz.func4, Tryz.ntmps4
  go_wp2_with fail
  refine (zFits2 t _ w.heap.size (w.alloc (.cells #[.int .i64 t.n, .slice sa t.s.length sc, .bool t.null, .slice la t.l.length lc, .slice ua t.u.length uc] 26)).heap.size (w.alloc (.cells #[.int .i64 t.n, .slice sa t.s.length sc, .bool t.null, .slice la t.l.length lc, .slice ua t.u.length uc] 26)) (by omega) (Nat.le_refl _) (H.out.1.keep H.out.2.2.2.1)).mono ?_
  rintro e w2 ⟨⟨b, rfl⟩, hb2⟩
  have hb2' : Below w.heap.size w w2 := H.out.2.2.2.1.trans (hb2.mono (by omega))
  have z2 := hb2.size
  obtain ⟨t0, t1, t2, t3, t4⟩ := boxT (H.out.2.2.2.2.below hb2 (by omega))
  have Z2 := Lib.hid hb2'
  clear hb2 hb2'
  cases b
  · go_wp2
    go_ret
    exact ⟨rfl, Z2.out⟩
  go_wp2_with fail
  refine (maxMsg _).mono ?_
  rintro e w3 ⟨rfl, hb3⟩
  have z3 := hb3.size
  have c : w3.drew.cell? ⟨w.heap.size, 0, none⟩ = some (.int .i64 t.n) ∧ w3.drew.cell? ⟨w.heap.size, 1, none⟩ = some (.slice sa t.s.length sc) ∧ w3.drew.cell? ⟨w.heap.size, 2, none⟩ = some (.bool t.null) ∧ w3.drew.cell? ⟨w.heap.size, 3, none⟩ = some (.slice la t.l.length lc) ∧ w3.drew.cell? ⟨w.heap.size, 4, none⟩ = some (.slice ua t.u.length uc) := keep5 (hb3.drew) (by omega) ⟨t0, t1, t2, t3, t4⟩
  have hC := Lib.hid c
  have Z3 := Lib.hid (And.intro (Z2.out.trans (hb3.mono (by omega))).drew hb3)
  clear c hb3 t0 t1 t2 t3 t4
  go_wp2_with fail
  go_region_held3 (fun w' => w'.cell? ⟨w.heap.size, 0, none⟩ = some (.int .i64 t.n) ∧ w'.cell? ⟨w.heap.size, 1, none⟩ = some (.slice sa t.s.length sc) ∧ w'.cell? ⟨w.heap.size, 2, none⟩ = some (.bool t.null) ∧ w'.cell? ⟨w.heap.size, 3, none⟩ = some (.slice la t.l.length lc) ∧ w'.cell? ⟨w.heap.size, 4, none⟩ = some (.slice ua t.u.length uc))
    (first | exact hC.out | exact hS5 | exact hS6)
    (first
      | (go_at_call 13; refine (LVh.out _).mono ?_; rintro e w' ⟨rfl, rfl⟩)
      | (go_at_call 12; refine (gives12 _).mono ?_; rintro e w5 ⟨fv, rfl, hf, hb5⟩; have hS5 := keep5 hb5 (by show w.heap.size < w3.heap.size; omega) hC.out; have z5 := hb5.size; have z5 : w3.heap.size ≤ w5.heap.size := z5; obtain ⟨fa, fcap, rfl, -⟩ := id hf; have b05 : Below w.heap.size w w5 := Z3.out.1.trans (hb5.mono (by show w.heap.size ≤ w3.heap.size; omega)))
      | (go_at_call 11; refine (spWriteT fs12 fsTag fsKind fsSub ver 0 t (hasV 0 none ver) (fsLen ver t) HCO.out (by simp [hasV]) w5.heap.size w5.heap.size w5 _ _ (Nat.le_refl _) (Nat.le_refl _) hf ((H.out.1.keep b05).upB (by omega)) (by rw [K.out.2.2.2]; exact hlb)).mono ?_; rintro e w6 ⟨x6, rfl, hown6, hb6⟩; have hS6 := keep5 hb6 (by omega) hS5; have z6 := hb6.size))
  rw [K.out.2.2.2] at hown6
  have b06 : Below w.heap.size w w6 := b05.trans (hb6.mono (by omega))
  have hE6 : w6.cell? ⟨1, 0, none⟩ = some (.iface tE vE) := (b06.cell (p := ⟨1, 0, none⟩) H.out.2.2.1).trans H.out.2.1
  have HAP : ∀ gv' r, rd ver (hasV 0 none ver) schVoteResponse bs = some (gv', r) → (ap ver (hasV 0 none ver) schVoteResponse gv').length ≤ lim := by
    intro gv' r hx
    have h1 := K.out.1
    rw [K.out.2.2.2, hx] at h1
    cases h1
    rw [K.out.2.1, K.out.2.2.2]
    exact hlb
  have hrd : rd ver (hasV 0 none ver) schVoteResponse bs = some (gv, []) := by rw [← K.out.2.2.2]; exact K.out.1
  have C7 := Lib.hid (again ver hv0 hv1 tE vE w6 x6 bs (hown6.rb [] (by simp)) hlb (by have h := HKD.out bs.length; rwa [List.take_length] at h) HAP hE6)
  obtain ⟨xa, xcap, hx6⟩ := own_shape hown6
  have Z6 := Lib.hid (And.intro hown6 (And.intro b06 (And.intro hrd (And.intro HAP hE6))))
  obtain ⟨L, hL⟩ : ∃ L, bs.length = L := ⟨_, rfl⟩
  rw [hL] at hx6
  subst hx6
  clear hown6 b06 hb6 hS5 hS6 hE6 hrd HAP hf hb5 b05
  go_wp2_with fail
  refine (LVh.out _).mono ?_
  rintro e w6' ⟨rfl, rfl⟩
  go_wp2_with fail
  refine C7.out.mono ?_
  intro e w7 hp
  obtain ⟨b67, -, hg⟩ := hp
  obtain ⟨y, rfl, hown7⟩ := hg gv [] Z6.out.2.2.1
  have hap7 : ap ver (hasV 0 none ver) schVoteResponse gv = bs := by rw [K.out.2.1, K.out.2.2.2]
  rw [hap7] at hown7
  have z7 := b67.size
  have hx7 : Own w5.heap.size w7 (.slice xa L xcap) bs := Z6.out.1.stay b67 (Nat.le_refl _)
  obtain ⟨ya, yc, hy⟩ := own_shape hown7
  rw [hL] at hy
  subst hy
  have hE7 : w7.cell? ⟨1, 0, none⟩ = some (.iface tE vE) := (b67.cell (p := ⟨1, 0, none⟩) (World.block_lt_of_cell? w6 _ Z6.out.2.2.2.2)).trans Z6.out.2.2.2.2
  have B7 := Lib.hid (And.intro (Z6.out.2.1.trans (b67.mono Z6.out.2.1.size)) (And.intro (hx7.rb [] (by simp)) hE7))
  clear b67 hg hown7 hx7 C7 hE7
  by_cases hL0 : L = 0
  · subst hL0
    go_wp2
    go_ret
    exact ⟨rfl, B7.out.1⟩
  obtain ⟨xb, xo, hxa, hxc, hxd⟩ : ∃ xb xo, xa = some ⟨xb, xo, none⟩ ∧ L ≤ xcap ∧ xcap ≤ 9223372036854775807 := by
    obtain ⟨a', c', hv, hc, hd, hr⟩ := B7.out.2.1
    cases hv
    obtain ⟨b, o, ha, -⟩ := hr (by intro e; rw [e] at hL; exact hL0 (by first | (rw [e]; rfl) | (rw [← hL, e]; rfl)))
    exact ⟨b, o, ha, by omega, hd⟩
  subst hxa
  obtain ⟨k, hk⟩ : ∃ k : Nat, m % (L : Nat) = (k : Int) := ⟨(m % (L : Nat)).toNat, by have := Int.emod_nonneg m (b := (L : Nat)) (by omega); omega⟩
  have hkL : k < L := by have := Int.emod_lt_of_pos m (b := (L : Nat)) (by omega); omega
  have hcutk : rd ver (hasV 0 none ver) schVoteResponse (bs.take k) = none := by rw [← K.out.2.2.2]; exact K.out.2.2.1 k (by rw [K.out.2.2.2]; omega)
  have htl : (bs.take k).length = k := by rw [List.length_take]; omega
  have hrbk : RB [] w7 (.slice (some ⟨xb, xo, none⟩) k xcap) (bs.take k) := RB.cut B7.out.2.1 (by omega)
  have C9 := Lib.hid (again ver hv0 hv1 tE vE w7.drew (.slice (some ⟨xb, xo, none⟩) k xcap) (bs.take k) hrbk.drew (by omega) (HKD.out k) (fun gv' r hx => by rw [hcutk] at hx; cases hx) B7.out.2.2)
  have HC := Lib.hid hcutk
  have hmt : m.tmod (L : Nat) = (k : Int) := by rw [Int.tmod_eq_emod_of_nonneg hm0]; exact hk
  have hk1 : (0 : Int) ≤ (k : Nat) := by omega
  have hk2 : ((k : Nat) : Int) ≤ (xcap : Nat) := by omega
  have hk5 : (0 : Int) ≤ m % (L : Nat) := by rw [hk]; exact hk1
  have hk6 : m % (L : Nat) ≤ (xcap : Nat) := by rw [hk]; exact hk2
  have hL1 : ¬ ((L : Nat) : Int) = 0 := by omega
  have hL2 : (0 : Int) < (L : Nat) := by omega
  have hw1 : IntKind.i64.wrap (m.tmod (L : Nat)) = (k : Int) := by rw [hmt, IntKind.wrap_i64]; omega
  have hw2 : IntKind.i64.wrap (m % (L : Nat)) = (k : Int) := by rw [hk, IntKind.wrap_i64]; omega
  have hw3 : IntKind.i64.wrap m = m := by rw [IntKind.wrap_i64]; omega
  have hk3 : (0 : Int) ≤ m.tmod (L : Nat) := by rw [hmt]; exact hk1
  have hk4 : m.tmod (L : Nat) ≤ (xcap : Nat) := by rw [hmt]; exact hk2
  clear hrbk hcutk
  go_wp2_with fail
  go_region_held3 (fun _ => True) (first | trivial)
    (first
      | (go_at_call 13; refine (LVh.out _).mono ?_; rintro e w' ⟨rfl, rfl⟩)
      | (go_at_call 14; refine C9.out.mono ?_; intro e w9 hp9; obtain ⟨b79, hn9, -⟩ := hp9; obtain rfl := hn9 HC.out))
  have B9 := Lib.hid (B7.out.1.drew.trans (b79.mono (by exact B7.out.1.size)))
  clear b79
  go_wp2
  go_ret
  exact ⟨rfl, B9.out⟩

end Go.Proofs.YtmpilpgabelmiaaGreatDoor.cutVoteResponse
