/- The words of the kinds of patterns are those that the reference names, in order. -/
import Derived.Test.YtfchajjllhndlaaAppend
import Derived.Test.YtfchajjllhndlaaProg
import Derived.Lib.Hide
namespace Go.Proofs.Ytfchajjllhndlaa.words
open Go Go.RowKit
set_option linter.unusedVariables false

theorem blk2 (w : World) (o : Obj) (c : List Value) (T : Nat) : Blk ((w.alloc o).alloc (.cells c.toArray T)) (w.heap.size + 1) c T := by
  have h := Blk.alloc_new (w.alloc o) c T
  rw [show (w.alloc o).heap.size = w.heap.size + 1 by simp] at h
  exact h
theorem stringInfo : (Try.prog.info? 9).map (fun i => (i.zero, i.size, i.bytes)) = some (some (.string ⟨#[]⟩), 1, 16) := by kernel_rfl
set_option maxHeartbeats 800000 in
theorem stringsOK (w : World) : Calls Try.prog 15 #[] w fun e w' => e = .returned (.slice (some ⟨w.heap.size, 0, none⟩) 4 4) ∧ w' = w.alloc (.cells [.string ⟨#[65, 78, 89]⟩, .string ⟨#[77, 65, 84, 67, 72]⟩, .string ⟨#[76, 73, 84, 69, 82, 65, 76]⟩, .string ⟨#[80, 82, 69, 70, 73, 88, 69, 68]⟩].toArray 9) := by
  go_enter Try.func15, Try.ntmps15
  go_wp2
  go_ret
  exact ⟨rfl, rfl⟩
set_option maxHeartbeats 800000 in
theorem implOK (w : World) : Calls Try.prog 6 #[] w fun e w' => e = .returned (.slice (some ⟨w.heap.size, 0, none⟩) 4 4) ∧ w' = w.alloc (.cells [.string ⟨#[65, 78, 89]⟩, .string ⟨#[77, 65, 84, 67, 72]⟩, .string ⟨#[76, 73, 84, 69, 82, 65, 76]⟩, .string ⟨#[80, 82, 69, 70, 73, 88, 69, 68]⟩].toArray 9) := by
  go_enter Try.func6, Try.ntmps6
  go_wp2_with fail
  refine (stringsOK _).mono ?_
  rintro e w1 ⟨rfl, rfl⟩
  go_wp2
  go_ret
  exact ⟨rfl, rfl⟩
set_option maxHeartbeats 800000 in
theorem namesOK (w : World) : Calls Try.prog 8 #[] w fun e w' => e = .returned (.slice (some ⟨w.heap.size, 0, none⟩) 4 4) ∧ w' = w.alloc (.cells [.int .i64 1, .string ⟨#[65, 78, 89]⟩, .int .i64 2, .string ⟨#[77, 65, 84, 67, 72]⟩, .int .i64 3, .string ⟨#[76, 73, 84, 69, 82, 65, 76]⟩, .int .i64 4, .string ⟨#[80, 82, 69, 70, 73, 88, 69, 68]⟩].toArray 41) := by
  go_enter Try.func8, Try.ntmps8
  go_wp2
  go_ret
  exact ⟨rfl, rfl⟩
set_option maxRecDepth 100000 in
set_option maxHeartbeats 1600000 in
theorem wordsOK (w : World) (b : Nat) (hB : Blk w b [.int .i64 1, .string ⟨#[65, 78, 89]⟩, .int .i64 2, .string ⟨#[77, 65, 84, 67, 72]⟩, .int .i64 3, .string ⟨#[76, 73, 84, 69, 82, 65, 76]⟩, .int .i64 4, .string ⟨#[80, 82, 69, 70, 73, 88, 69, 68]⟩] 41) : Calls Try.prog 7 #[.slice (some ⟨b, 0, none⟩) 4 4] w fun e w' => ∃ v, e = .returned v ∧ w'.ownsRow w.heap.size 9 1 v 4 [.string ⟨#[65, 78, 89]⟩, .string ⟨#[77, 65, 84, 67, 72]⟩, .string ⟨#[76, 73, 84, 69, 82, 65, 76]⟩, .string ⟨#[80, 82, 69, 70, 73, 88, 69, 68]⟩] ∧ Below w.heap.size w w' := by
  obtain ⟨i0, hi, hz, hs, hby⟩ := info_parts stringInfo
  have hlt := hB.lt
  have hown0 := World.ownsRow_nil w w.heap.size 9 1
  have hbel0 := Below.refl w.heap.size w
  have HB := Lib.hid hB
  clear hB

  have m0 := HB.out.cell_some (i := 0) rfl
  have m1 := HB.out.cell_some (i := 1) rfl
  go_enter Try.func7, Try.ntmps7
  go_wp2_with fail
  refine wp_loop_rounds 5 ?_
  rw [rounds_succ]
  go_wp2_with (at_builtin; refine halted ?_)
  refine wpl_append_src rfl (.tmp 12) (.tmp 15) 23 23 rfl w.heap.size 9 i0 (.string ⟨#[]⟩) 1 16 Try.underlying23 hi hz hs hby rfl _ 0 [] rfl ((World.ownsRow.alloc (World.ownsRow.alloc hown0 _) _)) _ 1 [.string ⟨#[65, 78, 89]⟩] rfl (Src.ofSlice _ Try.underlying23 _ 1 1 _ rfl ?_ ?_) (by unfold maxLen; omega) (by omega) (by have := hbel0.size; simp; omega) ?_
  · intro j u hj
    rw [Addr.add_lit]
    exact (blk2 w (.cells #[.int .i64 1, .string ⟨#[65, 78, 89]⟩] 41) [.string ⟨#[65, 78, 89]⟩] 9).cell_some (by simpa using hj)
  · intro u hu
    rw [List.mem_singleton] at hu
    subst hu
    rfl
  intro v1 w1 hown1 hg1 _
  have hbel1 : Below w.heap.size w w1 := ((hbel0.alloc hbel0.size _).alloc (Nat.le_trans hbel0.size (by simp)) _).grown hg1 (Nat.le_trans hbel0.size (by simp; omega)) (fun q hq => (hown0.lt q hq).1)
  clear hown0 hg1
  have m2 := (HB.out.below hbel1 hlt).cell_some (i := 2) rfl
  have m3 := (HB.out.below hbel1 hlt).cell_some (i := 3) rfl
  clear m0 m1
  go_wp2_with fail
  rw [rounds_succ]
  go_wp2_with (at_builtin; refine halted ?_)
  refine wpl_append_src rfl (.tmp 12) (.tmp 15) 23 23 rfl w.heap.size 9 i0 (.string ⟨#[]⟩) 1 16 Try.underlying23 hi hz hs hby rfl _ 1 [.string ⟨#[65, 78, 89]⟩] rfl ((World.ownsRow.alloc (World.ownsRow.alloc hown1 _) _)) _ 1 [.string ⟨#[77, 65, 84, 67, 72]⟩] rfl (Src.ofSlice _ Try.underlying23 _ 1 1 _ rfl ?_ ?_) (by unfold maxLen; omega) (by omega) (by have := hbel1.size; simp; omega) ?_
  · intro j u hj
    rw [Addr.add_lit]
    exact (blk2 w1 (.cells #[.int .i64 2, .string ⟨#[77, 65, 84, 67, 72]⟩] 41) [.string ⟨#[77, 65, 84, 67, 72]⟩] 9).cell_some (by simpa using hj)
  · intro u hu
    rw [List.mem_singleton] at hu
    subst hu
    rfl
  intro v2 w2 hown2 hg2 _
  have hbel2 : Below w.heap.size w w2 := ((hbel1.alloc hbel1.size _).alloc (Nat.le_trans hbel1.size (by simp)) _).grown hg2 (Nat.le_trans hbel1.size (by simp; omega)) (fun q hq => (hown1.lt q hq).1)
  clear hown1 hg2
  have m4 := (HB.out.below hbel2 hlt).cell_some (i := 4) rfl
  have m5 := (HB.out.below hbel2 hlt).cell_some (i := 5) rfl
  clear m2 m3
  go_wp2_with fail
  rw [rounds_succ]
  go_wp2_with (at_builtin; refine halted ?_)
  refine wpl_append_src rfl (.tmp 12) (.tmp 15) 23 23 rfl w.heap.size 9 i0 (.string ⟨#[]⟩) 1 16 Try.underlying23 hi hz hs hby rfl _ 2 [.string ⟨#[65, 78, 89]⟩, .string ⟨#[77, 65, 84, 67, 72]⟩] rfl ((World.ownsRow.alloc (World.ownsRow.alloc hown2 _) _)) _ 1 [.string ⟨#[76, 73, 84, 69, 82, 65, 76]⟩] rfl (Src.ofSlice _ Try.underlying23 _ 1 1 _ rfl ?_ ?_) (by unfold maxLen; omega) (by omega) (by have := hbel2.size; simp; omega) ?_
  · intro j u hj
    rw [Addr.add_lit]
    exact (blk2 w2 (.cells #[.int .i64 3, .string ⟨#[76, 73, 84, 69, 82, 65, 76]⟩] 41) [.string ⟨#[76, 73, 84, 69, 82, 65, 76]⟩] 9).cell_some (by simpa using hj)
  · intro u hu
    rw [List.mem_singleton] at hu
    subst hu
    rfl
  intro v3 w3 hown3 hg3 _
  have hbel3 : Below w.heap.size w w3 := ((hbel2.alloc hbel2.size _).alloc (Nat.le_trans hbel2.size (by simp)) _).grown hg3 (Nat.le_trans hbel2.size (by simp; omega)) (fun q hq => (hown2.lt q hq).1)
  clear hown2 hg3
  have m6 := (HB.out.below hbel3 hlt).cell_some (i := 6) rfl
  have m7 := (HB.out.below hbel3 hlt).cell_some (i := 7) rfl
  clear m4 m5
  go_wp2_with fail
  rw [rounds_succ]
  go_wp2_with (at_builtin; refine halted ?_)
  refine wpl_append_src rfl (.tmp 12) (.tmp 15) 23 23 rfl w.heap.size 9 i0 (.string ⟨#[]⟩) 1 16 Try.underlying23 hi hz hs hby rfl _ 3 [.string ⟨#[65, 78, 89]⟩, .string ⟨#[77, 65, 84, 67, 72]⟩, .string ⟨#[76, 73, 84, 69, 82, 65, 76]⟩] rfl ((World.ownsRow.alloc (World.ownsRow.alloc hown3 _) _)) _ 1 [.string ⟨#[80, 82, 69, 70, 73, 88, 69, 68]⟩] rfl (Src.ofSlice _ Try.underlying23 _ 1 1 _ rfl ?_ ?_) (by unfold maxLen; omega) (by omega) (by have := hbel3.size; simp; omega) ?_
  · intro j u hj
    rw [Addr.add_lit]
    exact (blk2 w3 (.cells #[.int .i64 4, .string ⟨#[80, 82, 69, 70, 73, 88, 69, 68]⟩] 41) [.string ⟨#[80, 82, 69, 70, 73, 88, 69, 68]⟩] 9).cell_some (by simpa using hj)
  · intro u hu
    rw [List.mem_singleton] at hu
    subst hu
    rfl
  intro v4 w4 hown4 hg4 _
  have hbel4 : Below w.heap.size w w4 := ((hbel3.alloc hbel3.size _).alloc (Nat.le_trans hbel3.size (by simp)) _).grown hg4 (Nat.le_trans hbel3.size (by simp; omega)) (fun q hq => (hown3.lt q hq).1)
  clear hown3 hg4
  have m8 := (HB.out.below hbel4 hlt).cell_some (i := 0) rfl
  have m9 := (HB.out.below hbel4 hlt).cell_some (i := 1) rfl
  clear m6 m7
  go_wp2_with fail
  rw [rounds_succ]
  go_wp2
  go_ret
  exact ⟨_, rfl, hown4, hbel4⟩
set_option maxRecDepth 100000 in
set_option maxHeartbeats 1600000 in
theorem sameOK (w : World) (b g : Nat) (cap : Nat) (hB : Blk w b [.string ⟨#[65, 78, 89]⟩, .string ⟨#[77, 65, 84, 67, 72]⟩, .string ⟨#[76, 73, 84, 69, 82, 65, 76]⟩, .string ⟨#[80, 82, 69, 70, 73, 88, 69, 68]⟩] 9) (hC : ∀ j u, ([.string ⟨#[65, 78, 89]⟩, .string ⟨#[77, 65, 84, 67, 72]⟩, .string ⟨#[76, 73, 84, 69, 82, 65, 76]⟩, .string ⟨#[80, 82, 69, 70, 73, 88, 69, 68]⟩] : List Value)[j]? = some u → w.cell? ⟨g, j, none⟩ = some u) :
    Calls Try.prog 5 #[.slice (some ⟨b, 0, none⟩) 4 4, .slice (some ⟨g, 0, none⟩) 4 cap] w fun e w' => e = .returned (.bool true) ∧ Below w.heap.size w w' := by
  have m0 := hB.cell_some (i := 0) rfl
  have n0 := hC 0 _ rfl
  have m1 := hB.cell_some (i := 1) rfl
  have n1 := hC 1 _ rfl
  have m2 := hB.cell_some (i := 2) rfl
  have n2 := hC 2 _ rfl
  have m3 := hB.cell_some (i := 3) rfl
  have n3 := hC 3 _ rfl
  clear hB hC
  go_enter Try.func5, Try.ntmps5
  go_wp2_with fail
  refine wp_loop_rounds 5 ?_
  rw [rounds_succ]
  go_wp2_with fail
  go_region
  go_wp2_with fail
  rw [rounds_succ]
  go_wp2_with fail
  go_region
  go_wp2_with fail
  rw [rounds_succ]
  go_wp2_with fail
  go_region
  go_wp2_with fail
  rw [rounds_succ]
  go_wp2_with fail
  go_region
  go_wp2_with fail
  rw [rounds_succ]
  go_wp2
  go_ret
  exact ⟨rfl, by first | exact Below.refl _ _ | exact ((((Below.refl _ _).drew).drew).drew).drew⟩
set_option maxHeartbeats 1600000 in
theorem law (w : World) : Calls Try.prog 3 #[] w fun e w' => e = .returned (.bool true) ∧ Below w.heap.size w w' := by
  go_enter Try.func3, Try.ntmps3
  go_wp2_with fail
  refine (implOK _).mono ?_
  rintro e w1 ⟨rfl, rfl⟩
  have hB1 := Blk.alloc_new w [.string ⟨#[65, 78, 89]⟩, .string ⟨#[77, 65, 84, 67, 72]⟩, .string ⟨#[76, 73, 84, 69, 82, 65, 76]⟩, .string ⟨#[80, 82, 69, 70, 73, 88, 69, 68]⟩] 9
  go_wp2_with fail
  refine (namesOK _).mono ?_
  rintro e w2 ⟨rfl, rfl⟩
  have hB2 := blk2 w (.cells [.string ⟨#[65, 78, 89]⟩, .string ⟨#[77, 65, 84, 67, 72]⟩, .string ⟨#[76, 73, 84, 69, 82, 65, 76]⟩, .string ⟨#[80, 82, 69, 70, 73, 88, 69, 68]⟩].toArray 9) [.int .i64 1, .string ⟨#[65, 78, 89]⟩, .int .i64 2, .string ⟨#[77, 65, 84, 67, 72]⟩, .int .i64 3, .string ⟨#[76, 73, 84, 69, 82, 65, 76]⟩, .int .i64 4, .string ⟨#[80, 82, 69, 70, 73, 88, 69, 68]⟩] 41
  have hB1 := hB1.alloc (.cells [.int .i64 1, .string ⟨#[65, 78, 89]⟩, .int .i64 2, .string ⟨#[77, 65, 84, 67, 72]⟩, .int .i64 3, .string ⟨#[76, 73, 84, 69, 82, 65, 76]⟩, .int .i64 4, .string ⟨#[80, 82, 69, 70, 73, 88, 69, 68]⟩].toArray 41)
  have hbel := ((Below.refl w.heap.size w).alloc (Nat.le_refl _) (.cells [.string ⟨#[65, 78, 89]⟩, .string ⟨#[77, 65, 84, 67, 72]⟩, .string ⟨#[76, 73, 84, 69, 82, 65, 76]⟩, .string ⟨#[80, 82, 69, 70, 73, 88, 69, 68]⟩].toArray 9)).alloc (by simp) (.cells [.int .i64 1, .string ⟨#[65, 78, 89]⟩, .int .i64 2, .string ⟨#[77, 65, 84, 67, 72]⟩, .int .i64 3, .string ⟨#[76, 73, 84, 69, 82, 65, 76]⟩, .int .i64 4, .string ⟨#[80, 82, 69, 70, 73, 88, 69, 68]⟩].toArray 41)
  have hsz : ((w.alloc (.cells [.string ⟨#[65, 78, 89]⟩, .string ⟨#[77, 65, 84, 67, 72]⟩, .string ⟨#[76, 73, 84, 69, 82, 65, 76]⟩, .string ⟨#[80, 82, 69, 70, 73, 88, 69, 68]⟩].toArray 9)).alloc (.cells [.int .i64 1, .string ⟨#[65, 78, 89]⟩, .int .i64 2, .string ⟨#[77, 65, 84, 67, 72]⟩, .int .i64 3, .string ⟨#[76, 73, 84, 69, 82, 65, 76]⟩, .int .i64 4, .string ⟨#[80, 82, 69, 70, 73, 88, 69, 68]⟩].toArray 41)).heap.size = w.heap.size + 2 := by simp
  generalize (w.alloc (.cells [.string ⟨#[65, 78, 89]⟩, .string ⟨#[77, 65, 84, 67, 72]⟩, .string ⟨#[76, 73, 84, 69, 82, 65, 76]⟩, .string ⟨#[80, 82, 69, 70, 73, 88, 69, 68]⟩].toArray 9)).alloc (.cells [.int .i64 1, .string ⟨#[65, 78, 89]⟩, .int .i64 2, .string ⟨#[77, 65, 84, 67, 72]⟩, .int .i64 3, .string ⟨#[76, 73, 84, 69, 82, 65, 76]⟩, .int .i64 4, .string ⟨#[80, 82, 69, 70, 73, 88, 69, 68]⟩].toArray 41) = w2 at *
  have C := Lib.hid (wordsOK w2 _ hB2)
  have H := Lib.hid (And.intro hB1 (And.intro hbel hsz))
  clear hB1 hB2 hbel hsz
  go_wp2_with fail
  refine C.out.mono ?_
  rintro e w3 ⟨v, rfl, hown, hb⟩
  obtain ⟨hB1, hbel, hsz⟩ := H.out
  have hcells := fun g hg => World.ownsRow.cells hown (g := g) hg
  rcases hown.2 with ⟨-, hz0⟩ | ⟨g, cap, cur, rfl, -⟩
  · omega
  have D := Lib.hid (sameOK w3 _ g cap (hB1.below hb (by omega)) (fun j u hj => by have := hcells g rfl j u hj; rw [Addr.add_lit, Nat.zero_add] at this; exact this))
  have Z := Lib.hid (And.intro hbel hb)
  clear hown hcells hb hB1 hbel hsz C
  go_wp2_with fail
  refine D.out.mono ?_
  rintro e w4 ⟨rfl, hb4⟩
  have F := Lib.hid (Z.out.1.trans (((Z.out.2.trans (hb4.mono Z.out.2.size))).mono Z.out.1.size))
  clear hb4
  go_wp2
  go_ret
  exact ⟨rfl, F.out⟩
end Go.Proofs.Ytfchajjllhndlaa.words
