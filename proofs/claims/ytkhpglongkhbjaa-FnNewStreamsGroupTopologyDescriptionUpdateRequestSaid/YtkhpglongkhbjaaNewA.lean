/- A new StreamsGroupTopologyDescriptionUpdateRequest is written as the defaults are. Printed by newgen.py. -/
import Derived.Test.YtkhpglongkhbjaaSpk
import Derived.Test.YtkhpglongkhbjaaSpl
import Derived.Test.YtkhpglongkhbjaaAppAll
namespace Go.Proofs.Ytkhpglongkhbjaa.newStreamsGroupTopologyDescriptionUpdateRequest
open Go Go.RowKit
def fs39 : PFs := (.cons 8 0 (-1) (-1) (-1) 0 0 .nil (.cons 1 0 (-1) (-1) (-1) 0 0 .nil (.cons 11 0 (-1) (-1) (-1) 0 8 .nil (.cons 8 0 (-1) 0 (-1) 0 0 .nil (.cons 11 0 (-1) (-1) (-1) 0 8 .nil (.cons 11 0 (-1) (-1) (-1) 0 8 .nil .nil))))))
def fs18 : PFs := (.cons 8 0 (-1) (-1) (-1) 0 0 .nil (.cons 11 0 (-1) (-1) (-1) 0 10 fs39 .nil))
def fs19 : PFs := (.cons 10 0 (-1) (-1) (-1) 0 0 fs39 (.cons 10 0 (-1) (-1) (-1) 0 0 fs39 .nil))
def fs13 : PFs := (.cons 11 0 (-1) (-1) (-1) 0 10 fs18 (.cons 11 0 (-1) (-1) (-1) 0 10 fs19 .nil))
def fs5 : PFs := (.cons 8 0 (-1) (-1) (-1) 0 0 .nil (.cons 8 0 (-1) (-1) (-1) 0 0 .nil (.cons 3 0 (-1) (-1) (-1) 0 0 .nil (.cons 10 0 (-1) (-1) (-1) 0 0 fs13 .nil))))
set_option maxRecDepth 100000 in
set_option maxHeartbeats 1600000 in
theorem gives39 : GivesF 39 fs39 := by
  intro w0
  have hbt := Below.refl w0.heap.size w0
  go_enter Try.func39, Try.ntmps39
  go_wp2_with fail
  have hB := Blk.alloc_new w0 [.int .i64 8, .int .i64 0, .int .i64 (-1), .int .i64 (-1), .int .i64 (-1), .int .i64 0, .int .i64 0, .slice none 0 0, .int .i64 1, .int .i64 0, .int .i64 (-1), .int .i64 (-1), .int .i64 (-1), .int .i64 0, .int .i64 0, .slice none 0 0, .int .i64 11, .int .i64 0, .int .i64 (-1), .int .i64 (-1), .int .i64 (-1), .int .i64 0, .int .i64 8, .slice none 0 0, .int .i64 8, .int .i64 0, .int .i64 (-1), .int .i64 0, .int .i64 (-1), .int .i64 0, .int .i64 0, .slice none 0 0, .int .i64 11, .int .i64 0, .int .i64 (-1), .int .i64 (-1), .int .i64 (-1), .int .i64 0, .int .i64 8, .slice none 0 0, .int .i64 11, .int .i64 0, .int .i64 (-1), .int .i64 (-1), .int .i64 (-1), .int .i64 0, .int .i64 8, .slice none 0 0] 43
  have hbf := (Below.refl w0.heap.size w0).alloc (Nat.le_refl _) (.cells [.int .i64 8, .int .i64 0, .int .i64 (-1), .int .i64 (-1), .int .i64 (-1), .int .i64 0, .int .i64 0, .slice none 0 0, .int .i64 1, .int .i64 0, .int .i64 (-1), .int .i64 (-1), .int .i64 (-1), .int .i64 0, .int .i64 0, .slice none 0 0, .int .i64 11, .int .i64 0, .int .i64 (-1), .int .i64 (-1), .int .i64 (-1), .int .i64 0, .int .i64 8, .slice none 0 0, .int .i64 8, .int .i64 0, .int .i64 (-1), .int .i64 0, .int .i64 (-1), .int .i64 0, .int .i64 0, .slice none 0 0, .int .i64 11, .int .i64 0, .int .i64 (-1), .int .i64 (-1), .int .i64 (-1), .int .i64 0, .int .i64 8, .slice none 0 0, .int .i64 11, .int .i64 0, .int .i64 (-1), .int .i64 (-1), .int .i64 (-1), .int .i64 0, .int .i64 8, .slice none 0 0].toArray 43)
  have hbt2 := hbt.trans (hbf.mono hbt.size)
  have hzz : w0.heap.size < (w0.alloc (.cells [.int .i64 8, .int .i64 0, .int .i64 (-1), .int .i64 (-1), .int .i64 (-1), .int .i64 0, .int .i64 0, .slice none 0 0, .int .i64 1, .int .i64 0, .int .i64 (-1), .int .i64 (-1), .int .i64 (-1), .int .i64 0, .int .i64 0, .slice none 0 0, .int .i64 11, .int .i64 0, .int .i64 (-1), .int .i64 (-1), .int .i64 (-1), .int .i64 0, .int .i64 8, .slice none 0 0, .int .i64 8, .int .i64 0, .int .i64 (-1), .int .i64 0, .int .i64 (-1), .int .i64 0, .int .i64 0, .slice none 0 0, .int .i64 11, .int .i64 0, .int .i64 (-1), .int .i64 (-1), .int .i64 (-1), .int .i64 0, .int .i64 8, .slice none 0 0, .int .i64 11, .int .i64 0, .int .i64 (-1), .int .i64 (-1), .int .i64 (-1), .int .i64 0, .int .i64 8, .slice none 0 0].toArray 43)).heap.size := by simp
  have hR : RepF (w0.alloc (.cells [.int .i64 8, .int .i64 0, .int .i64 (-1), .int .i64 (-1), .int .i64 (-1), .int .i64 0, .int .i64 0, .slice none 0 0, .int .i64 1, .int .i64 0, .int .i64 (-1), .int .i64 (-1), .int .i64 (-1), .int .i64 0, .int .i64 0, .slice none 0 0, .int .i64 11, .int .i64 0, .int .i64 (-1), .int .i64 (-1), .int .i64 (-1), .int .i64 0, .int .i64 8, .slice none 0 0, .int .i64 8, .int .i64 0, .int .i64 (-1), .int .i64 0, .int .i64 (-1), .int .i64 0, .int .i64 0, .slice none 0 0, .int .i64 11, .int .i64 0, .int .i64 (-1), .int .i64 (-1), .int .i64 (-1), .int .i64 0, .int .i64 8, .slice none 0 0, .int .i64 11, .int .i64 0, .int .i64 (-1), .int .i64 (-1), .int .i64 (-1), .int .i64 0, .int .i64 8, .slice none 0 0].toArray 43)).heap.size (w0.alloc (.cells [.int .i64 8, .int .i64 0, .int .i64 (-1), .int .i64 (-1), .int .i64 (-1), .int .i64 0, .int .i64 0, .slice none 0 0, .int .i64 1, .int .i64 0, .int .i64 (-1), .int .i64 (-1), .int .i64 (-1), .int .i64 0, .int .i64 0, .slice none 0 0, .int .i64 11, .int .i64 0, .int .i64 (-1), .int .i64 (-1), .int .i64 (-1), .int .i64 0, .int .i64 8, .slice none 0 0, .int .i64 8, .int .i64 0, .int .i64 (-1), .int .i64 0, .int .i64 (-1), .int .i64 0, .int .i64 0, .slice none 0 0, .int .i64 11, .int .i64 0, .int .i64 (-1), .int .i64 (-1), .int .i64 (-1), .int .i64 0, .int .i64 8, .slice none 0 0, .int .i64 11, .int .i64 0, .int .i64 (-1), .int .i64 (-1), .int .i64 (-1), .int .i64 0, .int .i64 8, .slice none 0 0].toArray 43)) fs39 (.slice (some ⟨w0.heap.size, 0, none⟩) 6 6) := ⟨some ⟨w0.heap.size, 0, none⟩, 6, rfl, by decide, fun _ => ⟨_, 0, rfl, hzz, ⟨⟨hB.cell_some rfl, hB.cell_some rfl, hB.cell_some rfl, hB.cell_some rfl, hB.cell_some rfl, hB.cell_some rfl, hB.cell_some rfl⟩, ⟨_, hB.cell_some rfl, ⟨none, 0, rfl, by decide, fun h => absurd rfl h⟩⟩, ⟨⟨hB.cell_some rfl, hB.cell_some rfl, hB.cell_some rfl, hB.cell_some rfl, hB.cell_some rfl, hB.cell_some rfl, hB.cell_some rfl⟩, ⟨_, hB.cell_some rfl, ⟨none, 0, rfl, by decide, fun h => absurd rfl h⟩⟩, ⟨⟨hB.cell_some rfl, hB.cell_some rfl, hB.cell_some rfl, hB.cell_some rfl, hB.cell_some rfl, hB.cell_some rfl, hB.cell_some rfl⟩, ⟨_, hB.cell_some rfl, ⟨none, 0, rfl, by decide, fun h => absurd rfl h⟩⟩, ⟨⟨hB.cell_some rfl, hB.cell_some rfl, hB.cell_some rfl, hB.cell_some rfl, hB.cell_some rfl, hB.cell_some rfl, hB.cell_some rfl⟩, ⟨_, hB.cell_some rfl, ⟨none, 0, rfl, by decide, fun h => absurd rfl h⟩⟩, ⟨⟨hB.cell_some rfl, hB.cell_some rfl, hB.cell_some rfl, hB.cell_some rfl, hB.cell_some rfl, hB.cell_some rfl, hB.cell_some rfl⟩, ⟨_, hB.cell_some rfl, ⟨none, 0, rfl, by decide, fun h => absurd rfl h⟩⟩, ⟨⟨hB.cell_some rfl, hB.cell_some rfl, hB.cell_some rfl, hB.cell_some rfl, hB.cell_some rfl, hB.cell_some rfl, hB.cell_some rfl⟩, ⟨_, hB.cell_some rfl, ⟨none, 0, rfl, by decide, fun h => absurd rfl h⟩⟩, trivial⟩⟩⟩⟩⟩⟩⟩⟩
  have Z := Lib.hid (And.intro hR hbt2)
  clear hB hR hbf hbt hbt2 hzz
  go_ret
  exact ⟨_, rfl, Z.out.1, Z.out.2⟩
set_option maxRecDepth 100000 in
set_option maxHeartbeats 1600000 in
theorem gives18 : GivesF 18 fs18 := by
  intro w0
  have hbt := Below.refl w0.heap.size w0
  go_enter Try.func18, Try.ntmps18
  go_wp2_with fail
  refine (gives39 _).mono ?_
  rintro e w1 ⟨v1, rfl, hv1, hb1⟩
  obtain ⟨a1, c1, rfl, -⟩ := id hv1
  have z1 := hb1.size
  have hbt := hbt.trans (hb1.mono (by first | exact Nat.le_refl _ | exact hbt.size | omega))
  clear hb1
  have hB := Blk.alloc_new w1 [.int .i64 8, .int .i64 0, .int .i64 (-1), .int .i64 (-1), .int .i64 (-1), .int .i64 0, .int .i64 0, .slice none 0 0, .int .i64 11, .int .i64 0, .int .i64 (-1), .int .i64 (-1), .int .i64 (-1), .int .i64 0, .int .i64 10, .slice a1 fs39.len c1] 43
  have hbf := (Below.refl w1.heap.size w1).alloc (Nat.le_refl _) (.cells [.int .i64 8, .int .i64 0, .int .i64 (-1), .int .i64 (-1), .int .i64 (-1), .int .i64 0, .int .i64 0, .slice none 0 0, .int .i64 11, .int .i64 0, .int .i64 (-1), .int .i64 (-1), .int .i64 (-1), .int .i64 0, .int .i64 10, .slice a1 fs39.len c1].toArray 43)
  have hbt2 := hbt.trans (hbf.mono hbt.size)
  have hzz : w1.heap.size < (w1.alloc (.cells [.int .i64 8, .int .i64 0, .int .i64 (-1), .int .i64 (-1), .int .i64 (-1), .int .i64 0, .int .i64 0, .slice none 0 0, .int .i64 11, .int .i64 0, .int .i64 (-1), .int .i64 (-1), .int .i64 (-1), .int .i64 0, .int .i64 10, .slice a1 fs39.len c1].toArray 43)).heap.size := by simp
  have hv1 := hv1.up hbf (Nat.le_of_lt hzz)
  have hR : RepF (w1.alloc (.cells [.int .i64 8, .int .i64 0, .int .i64 (-1), .int .i64 (-1), .int .i64 (-1), .int .i64 0, .int .i64 0, .slice none 0 0, .int .i64 11, .int .i64 0, .int .i64 (-1), .int .i64 (-1), .int .i64 (-1), .int .i64 0, .int .i64 10, .slice a1 fs39.len c1].toArray 43)).heap.size (w1.alloc (.cells [.int .i64 8, .int .i64 0, .int .i64 (-1), .int .i64 (-1), .int .i64 (-1), .int .i64 0, .int .i64 0, .slice none 0 0, .int .i64 11, .int .i64 0, .int .i64 (-1), .int .i64 (-1), .int .i64 (-1), .int .i64 0, .int .i64 10, .slice a1 fs39.len c1].toArray 43)) fs18 (.slice (some ⟨w1.heap.size, 0, none⟩) 2 2) := ⟨some ⟨w1.heap.size, 0, none⟩, 2, rfl, by decide, fun _ => ⟨_, 0, rfl, hzz, ⟨⟨hB.cell_some rfl, hB.cell_some rfl, hB.cell_some rfl, hB.cell_some rfl, hB.cell_some rfl, hB.cell_some rfl, hB.cell_some rfl⟩, ⟨_, hB.cell_some rfl, ⟨none, 0, rfl, by decide, fun h => absurd rfl h⟩⟩, ⟨⟨hB.cell_some rfl, hB.cell_some rfl, hB.cell_some rfl, hB.cell_some rfl, hB.cell_some rfl, hB.cell_some rfl, hB.cell_some rfl⟩, ⟨_, hB.cell_some rfl, hv1⟩, trivial⟩⟩⟩⟩
  have Z := Lib.hid (And.intro hR hbt2)
  clear hB hR hbf hbt hbt2 hzz hv1
  go_wp2
  go_ret
  exact ⟨_, rfl, Z.out.1, Z.out.2⟩
set_option maxRecDepth 100000 in
set_option maxHeartbeats 1600000 in
theorem gives19 : GivesF 19 fs19 := by
  intro w0
  have hbt := Below.refl w0.heap.size w0
  go_enter Try.func19, Try.ntmps19
  go_wp2_with fail
  refine (gives39 _).mono ?_
  rintro e w1 ⟨v1, rfl, hv1, hb1⟩
  obtain ⟨a1, c1, rfl, -⟩ := id hv1
  have z1 := hb1.size
  have hbt := hbt.trans (hb1.mono (by first | exact Nat.le_refl _ | exact hbt.size | omega))
  clear hb1
  go_wp2_with fail
  refine (gives39 _).mono ?_
  rintro e w2 ⟨v2, rfl, hv2, hb2⟩
  obtain ⟨a2, c2, rfl, -⟩ := id hv2
  have z2 := hb2.size
  have hv1 := hv1.up hb2 z2
  have hbt := hbt.trans (hb2.mono (by first | exact Nat.le_refl _ | exact hbt.size | omega))
  clear hb2
  have hB := Blk.alloc_new w2 [.int .i64 10, .int .i64 0, .int .i64 (-1), .int .i64 (-1), .int .i64 (-1), .int .i64 0, .int .i64 0, .slice a1 fs39.len c1, .int .i64 10, .int .i64 0, .int .i64 (-1), .int .i64 (-1), .int .i64 (-1), .int .i64 0, .int .i64 0, .slice a2 fs39.len c2] 43
  have hbf := (Below.refl w2.heap.size w2).alloc (Nat.le_refl _) (.cells [.int .i64 10, .int .i64 0, .int .i64 (-1), .int .i64 (-1), .int .i64 (-1), .int .i64 0, .int .i64 0, .slice a1 fs39.len c1, .int .i64 10, .int .i64 0, .int .i64 (-1), .int .i64 (-1), .int .i64 (-1), .int .i64 0, .int .i64 0, .slice a2 fs39.len c2].toArray 43)
  have hbt2 := hbt.trans (hbf.mono hbt.size)
  have hzz : w2.heap.size < (w2.alloc (.cells [.int .i64 10, .int .i64 0, .int .i64 (-1), .int .i64 (-1), .int .i64 (-1), .int .i64 0, .int .i64 0, .slice a1 fs39.len c1, .int .i64 10, .int .i64 0, .int .i64 (-1), .int .i64 (-1), .int .i64 (-1), .int .i64 0, .int .i64 0, .slice a2 fs39.len c2].toArray 43)).heap.size := by simp
  have hv1 := hv1.up hbf (Nat.le_of_lt hzz)
  have hv2 := hv2.up hbf (Nat.le_of_lt hzz)
  have hR : RepF (w2.alloc (.cells [.int .i64 10, .int .i64 0, .int .i64 (-1), .int .i64 (-1), .int .i64 (-1), .int .i64 0, .int .i64 0, .slice a1 fs39.len c1, .int .i64 10, .int .i64 0, .int .i64 (-1), .int .i64 (-1), .int .i64 (-1), .int .i64 0, .int .i64 0, .slice a2 fs39.len c2].toArray 43)).heap.size (w2.alloc (.cells [.int .i64 10, .int .i64 0, .int .i64 (-1), .int .i64 (-1), .int .i64 (-1), .int .i64 0, .int .i64 0, .slice a1 fs39.len c1, .int .i64 10, .int .i64 0, .int .i64 (-1), .int .i64 (-1), .int .i64 (-1), .int .i64 0, .int .i64 0, .slice a2 fs39.len c2].toArray 43)) fs19 (.slice (some ⟨w2.heap.size, 0, none⟩) 2 2) := ⟨some ⟨w2.heap.size, 0, none⟩, 2, rfl, by decide, fun _ => ⟨_, 0, rfl, hzz, ⟨⟨hB.cell_some rfl, hB.cell_some rfl, hB.cell_some rfl, hB.cell_some rfl, hB.cell_some rfl, hB.cell_some rfl, hB.cell_some rfl⟩, ⟨_, hB.cell_some rfl, hv1⟩, ⟨⟨hB.cell_some rfl, hB.cell_some rfl, hB.cell_some rfl, hB.cell_some rfl, hB.cell_some rfl, hB.cell_some rfl, hB.cell_some rfl⟩, ⟨_, hB.cell_some rfl, hv2⟩, trivial⟩⟩⟩⟩
  have Z := Lib.hid (And.intro hR hbt2)
  clear hB hR hbf hbt hbt2 hzz hv1 hv2
  go_wp2
  go_ret
  exact ⟨_, rfl, Z.out.1, Z.out.2⟩
set_option maxRecDepth 100000 in
set_option maxHeartbeats 1600000 in
theorem gives13 : GivesF 13 fs13 := by
  intro w0
  have hbt := Below.refl w0.heap.size w0
  go_enter Try.func13, Try.ntmps13
  go_wp2_with fail
  refine (gives18 _).mono ?_
  rintro e w1 ⟨v1, rfl, hv1, hb1⟩
  obtain ⟨a1, c1, rfl, -⟩ := id hv1
  have z1 := hb1.size
  have hbt := hbt.trans (hb1.mono (by first | exact Nat.le_refl _ | exact hbt.size | omega))
  clear hb1
  go_wp2_with fail
  refine (gives19 _).mono ?_
  rintro e w2 ⟨v2, rfl, hv2, hb2⟩
  obtain ⟨a2, c2, rfl, -⟩ := id hv2
  have z2 := hb2.size
  have hv1 := hv1.up hb2 z2
  have hbt := hbt.trans (hb2.mono (by first | exact Nat.le_refl _ | exact hbt.size | omega))
  clear hb2
  have hB := Blk.alloc_new w2 [.int .i64 11, .int .i64 0, .int .i64 (-1), .int .i64 (-1), .int .i64 (-1), .int .i64 0, .int .i64 10, .slice a1 fs18.len c1, .int .i64 11, .int .i64 0, .int .i64 (-1), .int .i64 (-1), .int .i64 (-1), .int .i64 0, .int .i64 10, .slice a2 fs19.len c2] 43
  have hbf := (Below.refl w2.heap.size w2).alloc (Nat.le_refl _) (.cells [.int .i64 11, .int .i64 0, .int .i64 (-1), .int .i64 (-1), .int .i64 (-1), .int .i64 0, .int .i64 10, .slice a1 fs18.len c1, .int .i64 11, .int .i64 0, .int .i64 (-1), .int .i64 (-1), .int .i64 (-1), .int .i64 0, .int .i64 10, .slice a2 fs19.len c2].toArray 43)
  have hbt2 := hbt.trans (hbf.mono hbt.size)
  have hzz : w2.heap.size < (w2.alloc (.cells [.int .i64 11, .int .i64 0, .int .i64 (-1), .int .i64 (-1), .int .i64 (-1), .int .i64 0, .int .i64 10, .slice a1 fs18.len c1, .int .i64 11, .int .i64 0, .int .i64 (-1), .int .i64 (-1), .int .i64 (-1), .int .i64 0, .int .i64 10, .slice a2 fs19.len c2].toArray 43)).heap.size := by simp
  have hv1 := hv1.up hbf (Nat.le_of_lt hzz)
  have hv2 := hv2.up hbf (Nat.le_of_lt hzz)
  have hR : RepF (w2.alloc (.cells [.int .i64 11, .int .i64 0, .int .i64 (-1), .int .i64 (-1), .int .i64 (-1), .int .i64 0, .int .i64 10, .slice a1 fs18.len c1, .int .i64 11, .int .i64 0, .int .i64 (-1), .int .i64 (-1), .int .i64 (-1), .int .i64 0, .int .i64 10, .slice a2 fs19.len c2].toArray 43)).heap.size (w2.alloc (.cells [.int .i64 11, .int .i64 0, .int .i64 (-1), .int .i64 (-1), .int .i64 (-1), .int .i64 0, .int .i64 10, .slice a1 fs18.len c1, .int .i64 11, .int .i64 0, .int .i64 (-1), .int .i64 (-1), .int .i64 (-1), .int .i64 0, .int .i64 10, .slice a2 fs19.len c2].toArray 43)) fs13 (.slice (some ⟨w2.heap.size, 0, none⟩) 2 2) := ⟨some ⟨w2.heap.size, 0, none⟩, 2, rfl, by decide, fun _ => ⟨_, 0, rfl, hzz, ⟨⟨hB.cell_some rfl, hB.cell_some rfl, hB.cell_some rfl, hB.cell_some rfl, hB.cell_some rfl, hB.cell_some rfl, hB.cell_some rfl⟩, ⟨_, hB.cell_some rfl, hv1⟩, ⟨⟨hB.cell_some rfl, hB.cell_some rfl, hB.cell_some rfl, hB.cell_some rfl, hB.cell_some rfl, hB.cell_some rfl, hB.cell_some rfl⟩, ⟨_, hB.cell_some rfl, hv2⟩, trivial⟩⟩⟩⟩
  have Z := Lib.hid (And.intro hR hbt2)
  clear hB hR hbf hbt hbt2 hzz hv1 hv2
  go_wp2
  go_ret
  exact ⟨_, rfl, Z.out.1, Z.out.2⟩
set_option maxRecDepth 100000 in
set_option maxHeartbeats 1600000 in
theorem gives5 : GivesM 5 fs5 0 := by
  intro w0
  have hM := Blk.alloc_new w0 [.slice none 0 0, .int .i64 0] 25
  have hbt := (Below.refl w0.heap.size w0).alloc (Nat.le_refl _) (.cells #[.slice none 0 0, .int .i64 0] 25)
  have hsz : w0.heap.size + 1 ≤ (w0.alloc (.cells #[.slice none 0 0, .int .i64 0] 25)).heap.size := by simp
  go_enter Try.func5, Try.ntmps5
  go_wp2_with fail
  refine (gives13 _).mono ?_
  rintro e w1 ⟨v1, rfl, hv1, hb1⟩
  obtain ⟨a1, c1, rfl, -⟩ := id hv1
  have z1 := hb1.size
  have hM := hM.below hb1 (by simp)
  have hsz := Nat.le_trans hsz z1
  have hbt := hbt.trans (hb1.mono (by first | exact Nat.le_refl _ | exact hbt.size | omega))
  clear hb1
  have hB := Blk.alloc_new w1 [.int .i64 8, .int .i64 0, .int .i64 (-1), .int .i64 (-1), .int .i64 (-1), .int .i64 0, .int .i64 0, .slice none 0 0, .int .i64 8, .int .i64 0, .int .i64 (-1), .int .i64 (-1), .int .i64 (-1), .int .i64 0, .int .i64 0, .slice none 0 0, .int .i64 3, .int .i64 0, .int .i64 (-1), .int .i64 (-1), .int .i64 (-1), .int .i64 0, .int .i64 0, .slice none 0 0, .int .i64 10, .int .i64 0, .int .i64 (-1), .int .i64 (-1), .int .i64 (-1), .int .i64 0, .int .i64 0, .slice a1 fs13.len c1] 43
  have hbf := (Below.refl w1.heap.size w1).alloc (Nat.le_refl _) (.cells [.int .i64 8, .int .i64 0, .int .i64 (-1), .int .i64 (-1), .int .i64 (-1), .int .i64 0, .int .i64 0, .slice none 0 0, .int .i64 8, .int .i64 0, .int .i64 (-1), .int .i64 (-1), .int .i64 (-1), .int .i64 0, .int .i64 0, .slice none 0 0, .int .i64 3, .int .i64 0, .int .i64 (-1), .int .i64 (-1), .int .i64 (-1), .int .i64 0, .int .i64 0, .slice none 0 0, .int .i64 10, .int .i64 0, .int .i64 (-1), .int .i64 (-1), .int .i64 (-1), .int .i64 0, .int .i64 0, .slice a1 fs13.len c1].toArray 43)
  have hbt2 := hbt.trans (hbf.mono hbt.size)
  have hzz : w1.heap.size < (w1.alloc (.cells [.int .i64 8, .int .i64 0, .int .i64 (-1), .int .i64 (-1), .int .i64 (-1), .int .i64 0, .int .i64 0, .slice none 0 0, .int .i64 8, .int .i64 0, .int .i64 (-1), .int .i64 (-1), .int .i64 (-1), .int .i64 0, .int .i64 0, .slice none 0 0, .int .i64 3, .int .i64 0, .int .i64 (-1), .int .i64 (-1), .int .i64 (-1), .int .i64 0, .int .i64 0, .slice none 0 0, .int .i64 10, .int .i64 0, .int .i64 (-1), .int .i64 (-1), .int .i64 (-1), .int .i64 0, .int .i64 0, .slice a1 fs13.len c1].toArray 43)).heap.size := by simp
  have hv1 := hv1.up hbf (Nat.le_of_lt hzz)
  have hR : RepF (w1.alloc (.cells [.int .i64 8, .int .i64 0, .int .i64 (-1), .int .i64 (-1), .int .i64 (-1), .int .i64 0, .int .i64 0, .slice none 0 0, .int .i64 8, .int .i64 0, .int .i64 (-1), .int .i64 (-1), .int .i64 (-1), .int .i64 0, .int .i64 0, .slice none 0 0, .int .i64 3, .int .i64 0, .int .i64 (-1), .int .i64 (-1), .int .i64 (-1), .int .i64 0, .int .i64 0, .slice none 0 0, .int .i64 10, .int .i64 0, .int .i64 (-1), .int .i64 (-1), .int .i64 (-1), .int .i64 0, .int .i64 0, .slice a1 fs13.len c1].toArray 43)).heap.size (w1.alloc (.cells [.int .i64 8, .int .i64 0, .int .i64 (-1), .int .i64 (-1), .int .i64 (-1), .int .i64 0, .int .i64 0, .slice none 0 0, .int .i64 8, .int .i64 0, .int .i64 (-1), .int .i64 (-1), .int .i64 (-1), .int .i64 0, .int .i64 0, .slice none 0 0, .int .i64 3, .int .i64 0, .int .i64 (-1), .int .i64 (-1), .int .i64 (-1), .int .i64 0, .int .i64 0, .slice none 0 0, .int .i64 10, .int .i64 0, .int .i64 (-1), .int .i64 (-1), .int .i64 (-1), .int .i64 0, .int .i64 0, .slice a1 fs13.len c1].toArray 43)) fs5 (.slice (some ⟨w1.heap.size, 0, none⟩) 4 4) := ⟨some ⟨w1.heap.size, 0, none⟩, 4, rfl, by decide, fun _ => ⟨_, 0, rfl, hzz, ⟨⟨hB.cell_some rfl, hB.cell_some rfl, hB.cell_some rfl, hB.cell_some rfl, hB.cell_some rfl, hB.cell_some rfl, hB.cell_some rfl⟩, ⟨_, hB.cell_some rfl, ⟨none, 0, rfl, by decide, fun h => absurd rfl h⟩⟩, ⟨⟨hB.cell_some rfl, hB.cell_some rfl, hB.cell_some rfl, hB.cell_some rfl, hB.cell_some rfl, hB.cell_some rfl, hB.cell_some rfl⟩, ⟨_, hB.cell_some rfl, ⟨none, 0, rfl, by decide, fun h => absurd rfl h⟩⟩, ⟨⟨hB.cell_some rfl, hB.cell_some rfl, hB.cell_some rfl, hB.cell_some rfl, hB.cell_some rfl, hB.cell_some rfl, hB.cell_some rfl⟩, ⟨_, hB.cell_some rfl, ⟨none, 0, rfl, by decide, fun h => absurd rfl h⟩⟩, ⟨⟨hB.cell_some rfl, hB.cell_some rfl, hB.cell_some rfl, hB.cell_some rfl, hB.cell_some rfl, hB.cell_some rfl, hB.cell_some rfl⟩, ⟨_, hB.cell_some rfl, hv1⟩, trivial⟩⟩⟩⟩⟩⟩
  have Z := Lib.hid (And.intro hR hbt2)
  have hM2 := hM.alloc (.cells [.int .i64 8, .int .i64 0, .int .i64 (-1), .int .i64 (-1), .int .i64 (-1), .int .i64 0, .int .i64 0, .slice none 0 0, .int .i64 8, .int .i64 0, .int .i64 (-1), .int .i64 (-1), .int .i64 (-1), .int .i64 0, .int .i64 0, .slice none 0 0, .int .i64 3, .int .i64 0, .int .i64 (-1), .int .i64 (-1), .int .i64 (-1), .int .i64 0, .int .i64 0, .slice none 0 0, .int .i64 10, .int .i64 0, .int .i64 (-1), .int .i64 (-1), .int .i64 (-1), .int .i64 0, .int .i64 0, .slice a1 fs13.len c1].toArray 43)
  have hMM := Lib.hid hM2
  have m0 := fun o => (hM.alloc o).cell_some (i := 0) rfl
  have m1 := fun o => (hM.alloc o).cell_some (i := 1) rfl
  have f0 := fun o => (hM.alloc o).frozen 0
  have f1 := fun o => (hM.alloc o).frozen 1
  clear hB hR hbf hbt hbt2 hzz hv1 hM hM2
  go_wp2
  have hR := Z.out.1
  have hbt := Z.out.2
  have hR1 := hR.other (i := 0) (v := .slice (some ⟨w1.heap.size, 0, none⟩) 4 4) hMM.out
  have hM1 := hMM.out.set 0 (.slice (some ⟨w1.heap.size, 0, none⟩) 4 4)
  have hR2 := hR1.other (i := 1) (v := .int .i64 0) hM1
  have hM2 := hM1.set 1 (.int .i64 0)
  have hbt2 := (hbt.setCell (p := ⟨w0.heap.size, 0, none⟩) (Nat.le_refl _) (.slice (some ⟨w1.heap.size, 0, none⟩) 4 4)).setCell (p := ⟨w0.heap.size, 1, none⟩) (Nat.le_refl _) (.int .i64 0)
  exact ret_msg (fn := Try.f5) (g := w0.heap.size) rfl rfl hM2 rfl ⟨_, rfl, by simpa using hR2, hbt2⟩
theorem fsTag : fs5.noTag := by simp [PFs.noTag, fs39, fs18, fs19, fs13, fs5]
theorem fsOpt : fs5.noOpt := by simp [PFs.noOpt, fs39, fs18, fs19, fs13, fs5]
theorem fsFlat : fs5.flatL := by simp [PFs.flatL, PFs.flat, PFs.noTag, PFs.len, fs39, fs18, fs19, fs13, fs5]
def gv : GV := (.cons (.bytes []) (.cons (.bytes []) (.cons (.int 0) (.cons (.cons (.list []) (.cons (.list []) (.tags []))) (.tags [])))))
set_option maxHeartbeats 800000 in
theorem newPtr (w : World) : Calls Try.prog 11 #[] w fun e w' => e = .returned (.pointer (some ⟨w.heap.size, 0, none⟩)) ∧ w' = w.alloc (.cells [.int .i16 0, .string ⟨#[]⟩, .string ⟨#[]⟩, .int .i32 0, .slice none 0 0, .slice none 0 0, .map none, .map none].toArray 56) := by
  go_enter Try.func11, Try.ntmps11
  go_wp2
  go_end0
  go_wp2
  go_ret
  exact ⟨rfl, rfl⟩
set_option maxHeartbeats 800000 in
theorem setV (w : World) (b : Nat) (x : Value) (c : List Value) (v : Int) (h : Blk w b (x :: c) 56) : Calls Try.prog 14 #[.pointer (some ⟨b, 0, none⟩), .int .i16 v] w fun e w' => e = .returned (.tuple #[]) ∧ w' = w.setCell ⟨b, 0, none⟩ (.int .i16 v) := by
  have m := h.cell_some (i := 0) rfl
  have f := h.frozen 0
  go_enter Try.func14, Try.ntmps14
  go_wp2
  go_end0
  exact ⟨rfl, rfl⟩
theorem hasV0 {ver : Int} (h : 0 ≤ ver) : hasV 0 none ver = true := by simp [hasV, h]
theorem spelled (ver : Int) (h0 : 0 ≤ ver) (h1 : ver ≤ 0) : pPart ver (hasV 0 none ver) fs5 (.mk 0 [] false (pDefault fs5) []) = ap ver (hasV 0 none ver) schStreamsGroupTopologyDescriptionUpdateRequest gv ∧ (ap ver (hasV 0 none ver) schStreamsGroupTopologyDescriptionUpdateRequest gv).length ≤ lim := by
  have h : ver = 0 := by omega
  rcases h with rfl
  all_goals exact ⟨by decide +kernel, by decide +kernel⟩
set_option maxRecDepth 100000 in
set_option maxHeartbeats 1600000 in
theorem newMsg (ver : Int) (h0 : 0 ≤ ver) (h1 : ver ≤ 0) (base : Nat) (w : World) (hb : base ≤ w.heap.size) : Gives Try.prog 7 #[.int .i64 ver] w base (ap ver (hasV 0 none ver) schStreamsGroupTopologyDescriptionUpdateRequest gv) := by
  have hw : (ver + 32768) % 65536 - 32768 = ver := by omega
  have HL := Lib.hid (spelled ver h0 h1).2
  go_enter Try.func7, Try.ntmps7
  go_wp2_with fail
  refine (newPtr _).mono ?_
  rintro e w1 ⟨rfl, rfl⟩
  have hB0 := Blk.alloc_new w [.int .i16 0, .string ⟨#[]⟩, .string ⟨#[]⟩, .int .i32 0, .slice none 0 0, .slice none 0 0, .map none, .map none] 56
  go_wp2_with fail
  refine (setV _ _ _ _ ver hB0).mono ?_
  rintro e w2 ⟨rfl, rfl⟩
  have hB : Blk ((w.alloc (.cells [.int .i16 0, .string ⟨#[]⟩, .string ⟨#[]⟩, .int .i32 0, .slice none 0 0, .slice none 0 0, .map none, .map none].toArray 56)).setCell ⟨w.heap.size, 0, none⟩ (.int .i16 ver)) w.heap.size [.int .i16 ver, .string ⟨#[]⟩, .string ⟨#[]⟩, .int .i32 0, .slice none 0 0, .slice none 0 0, .map none, .map none] 56 := hB0.set 0 (.int .i16 ver)
  have hbel := ((Below.refl base w).alloc hb (.cells [.int .i16 0, .string ⟨#[]⟩, .string ⟨#[]⟩, .int .i32 0, .slice none 0 0, .slice none 0 0, .map none, .map none].toArray 56)).setCell (p := ⟨w.heap.size, 0, none⟩) hb (.int .i16 ver)
  generalize (w.alloc (.cells [.int .i16 0, .string ⟨#[]⟩, .string ⟨#[]⟩, .int .i32 0, .slice none 0 0, .slice none 0 0, .map none, .map none].toArray 56)).setCell ⟨w.heap.size, 0, none⟩ (.int .i16 ver) = w2 at *
  have Z := Lib.hid (And.intro hB hbel)
  clear hB hbel hB0
  go_wp2_with fail
  have hB := Z.out.1
  refine (appendStreamsGroupTopologyDescriptionUpdateRequest w2 ver (hasV0 h0) w.heap.size 0 gv (hB.cell_some rfl) ⟨fun _ => ⟨hB.cell_some rfl, Nat.zero_le _⟩, ⟨fun _ => ⟨hB.cell_some rfl, Nat.zero_le _⟩, ⟨fun _ => ⟨hB.cell_some rfl, by decide, by decide⟩, ⟨fun _ => ⟨fun _ => ⟨none, 0, hB.cell_some rfl, by decide, fun h => (by cases h), fun h => absurd rfl h⟩, ⟨fun _ => ⟨none, 0, hB.cell_some rfl, by decide, fun h => (by cases h), fun h => absurd rfl h⟩, ⟨rfl, hB.cell_some rfl⟩⟩⟩, ⟨rfl, hB.cell_some rfl⟩⟩⟩⟩⟩ HL.out).mono ?_
  rintro e w3 ⟨v, rfl, hown, hb3⟩
  clear hB
  go_wp2
  go_ret
  exact .mk (hown.mono (Nat.le_trans hb (Z.out.2.size))) (Z.out.2.trans (hb3.mono (Nat.le_trans hb Z.out.2.size)))

set_option maxHeartbeats 800000 in
theorem maxMsg (w : World) : Calls Try.prog 4 #[] w fun e w' => e = .returned (.int .i64 0) ∧ Below w.heap.size w w' := by
  go_enter Try.func4, Try.ntmps4
  go_wp2_with fail
  refine (newPtr _).mono ?_
  rintro e w1 ⟨rfl, rfl⟩
  have hb := Lib.hid ((Below.refl w.heap.size w).alloc (Nat.le_refl _) (.cells [.int .i16 0, .string ⟨#[]⟩, .string ⟨#[]⟩, .int .i32 0, .slice none 0 0, .slice none 0 0, .map none, .map none].toArray 56))
  go_wp2
  go_ret
  exact ⟨rfl, hb.out⟩
set_option maxRecDepth 100000 in
set_option maxHeartbeats 3200000 in
theorem law (n : Int) (h0 : 0 ≤ n) (h1 : n ≤ 255) (w : World) : Calls Try.prog 3 #[.int .u8 n] w fun e w' => e = .returned (.bool true) ∧ Below w.heap.size w w' := by
  obtain ⟨ver, hv⟩ : ∃ ver, n % (0 + 1) = ver := ⟨_, rfl⟩
  have hv0 : 0 ≤ ver := by omega
  have hv1 : ver ≤ 0 := by omega
  have LV := fun w => lawVersion n 0 h0 h1 (by decide) (by decide) w
  rw [hv] at LV
  have LVh := Lib.hid LV
  have SPh := Lib.hid (spelled ver hv0 hv1)
  clear LV hv
  go_enter Try.func3, Try.ntmps3
  go_wp2_with fail
  refine (maxMsg _).mono ?_
  rintro e w1 ⟨rfl, hb1⟩
  go_wp2_with fail
  refine (gives5 _).mono ?_
  rintro e w2 ⟨fv, rfl, hf, hb2⟩
  obtain ⟨fa, fcap, rfl, -⟩ := id hf
  have hM := Blk.alloc_new w2 [.slice fa fs5.len fcap, .int .i64 0] 25
  have hb3 : Below w2.heap.size w2 ((w2.alloc (.cells #[.slice fa fs5.len fcap, .int .i64 0] 25)).drew) := ((Below.refl w2.heap.size w2).alloc (Nat.le_refl _) (.cells #[.slice fa fs5.len fcap, .int .i64 0] 25)).drew
  have hs3 : ((w2.alloc (.cells #[.slice fa fs5.len fcap, .int .i64 0] 25)).drew).heap.size = w2.heap.size + 1 := by simp
  have c : ((w2.alloc (.cells #[.slice fa fs5.len fcap, .int .i64 0] 25)).drew).cell? ⟨w2.heap.size, 0, none⟩ = some (.slice fa fs5.len fcap) ∧ ((w2.alloc (.cells #[.slice fa fs5.len fcap, .int .i64 0] 25)).drew).cell? ⟨w2.heap.size, 1, none⟩ = some (.int .i64 0) := ⟨hM.drew.cell_some (i := 0) rfl, hM.drew.cell_some (i := 1) rfl⟩
  have hC := Lib.hid c
  have Z := Lib.hid (And.intro hf (And.intro hb1 (And.intro hb2 hb3)))
  have z1 := hb1.size
  have z2 := hb2.size
  clear c hM hb1 hb2 hb3 hf
  go_wp2_with fail
  go_region_held3 (fun w' => w'.cell? ⟨w2.heap.size, 0, none⟩ = some (.slice fa fs5.len fcap) ∧ w'.cell? ⟨w2.heap.size, 1, none⟩ = some (.int .i64 0))
    (first | exact hC.out | assumption | exact hS6 | exact hS7 | exact hS8 | exact hS9)
    (first
      | (go_at_call 8; refine (LVh.out _).mono ?_; rintro e w' ⟨rfl, rfl⟩)
      | (go_at_call 7; refine (newMsg ver hv0 hv1 ((w2.alloc (.cells #[.slice fa fs5.len fcap, .int .i64 0] 25)).drew).heap.size ((w2.alloc (.cells #[.slice fa fs5.len fcap, .int .i64 0] 25)).drew) (Nat.le_refl _)).mono ?_; rintro e w6 ⟨x6, rfl, hown6, hb6⟩; have hS6 := keep2 hb6 (by omega) hC.out; have z6 := hb6.size)
      | (go_at_call 10; refine (spDefaultL fs5 fsTag fsFlat (by decide) w2.heap.size w6.heap.size w6 _ (by omega) (Nat.le_refl _) (Z.out.1.below (Z.out.2.2.2.trans (hb6.mono (by omega))))).mono ?_; rintro e w7 ⟨c7, rfl, ht7, hb7⟩; have hS7 := keep2 hb7 (by omega) hS6; have z7 := hb7.size)
      | (go_at_call 9; refine (spWrite fs5 fsTag fsOpt ver 0 _ (hasV 0 none ver) (by simp [hasV]) w7.heap.size w7.heap.size w7 _ c7 (Nat.le_refl _) (Nat.le_refl _) ((Z.out.1.below (Z.out.2.2.2.trans ((hb6.mono (by omega)).trans (hb7.mono (by omega))))).upB (by omega)) ht7 (by rw [SPh.out.1]; exact SPh.out.2)).mono ?_; rintro e w8 ⟨x8, rfl, hown8, hb8⟩; have hS8 := keep2 hb8 (by omega) hS7; have z8 := hb8.size)
      | (go_at_call 6; refine (spSame (ap ver (hasV 0 none ver) schStreamsGroupTopologyDescriptionUpdateRequest gv) x6 x8 w8.heap.size w8.heap.size w8 (Nat.le_refl _) ((hown6.stay hb7 (Nat.le_refl _)).stay hb8 (Nat.le_refl _)).rl (by rw [← SPh.out.1]; exact hown8.rl) (Nat.le_refl _)).mono ?_; rintro e w9 ⟨rfl, hb9⟩; have hS9 := keep2 hb9 (by omega) hS8))
  have hfin : Below w.heap.size w w9 := Z.out.2.1.trans ((Z.out.2.2.1.mono (by omega)).trans ((Z.out.2.2.2.mono (by omega)).trans ((hb6.mono (by omega)).trans ((hb7.mono (by omega)).trans ((hb8.mono (by omega)).trans (hb9.mono (by omega)))))))
  have FIN := Lib.hid hfin
  clear hfin hb6 hb7 hb8 hb9 hown6 hown8 ht7 hS6 hS7 hS8 hS9
  go_wp2
  go_ret
  exact ⟨rfl, FIN.out⟩

end Go.Proofs.Ytkhpglongkhbjaa.newStreamsGroupTopologyDescriptionUpdateRequest
