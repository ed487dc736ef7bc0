/- Tags: what is written of none. -/
import Derived.Test.YtkhpglongkhbjaaKa
namespace Go.Proofs.Ytkhpglongkhbjaa
open Go Go.RowKit
set_option maxHeartbeats 400000 in
theorem tagsLen0 (a : Addr) (w : World) (hc : w.cell? a = some (.map none)) : Calls Try.prog 29 #[.pointer (some a)] w fun e w' => e = .returned (.int .i64 0) ∧ w = w' := by
  go_enter Try.func29, Try.ntmps29
  go_wp2
  go_ret
  exact ⟨rfl, rfl⟩
set_option maxHeartbeats 400000 in
theorem tagsEach0 (a : Addr) (fn : Value) (w : World) (hc : w.cell? a = some (.map none)) : Calls Try.prog 43 #[.pointer (some a), fn] w fun e w' => e = .returned (.tuple #[]) ∧ w = w' := by
  go_enter Try.func43, Try.ntmps43
  go_wp2
  exact bodyPost_ret (results_none rfl _ _ _) rfl ⟨rfl, rfl⟩
set_option maxHeartbeats 400000 in
theorem appendEach0 (a : Addr) (base : Nat) (w : World) (v : Value) (bs : List UInt8) (hc : w.cell? a = some (.map none)) (hown : Own base w v bs) (hb : base ≤ w.heap.size) :
    Calls Try.prog 30 #[.pointer (some a), v] w (Appended base w bs) := by
  have hlt : a.block < w.heap.size := World.block_lt_of_cell? w a hc
  have hv : ∃ ad n c, v = .slice ad n c := by
    rcases hown.2 with ⟨rfl, -⟩ | ⟨g, cap, cur, rfl, -⟩
    · exact ⟨_, _, _, rfl⟩
    · exact ⟨_, _, _, rfl⟩
  obtain ⟨ad, n, c, rfl⟩ := hv
  go_enter Try.func30, Try.ntmps30
  go_wp2_with fail
  refine (tagsEach0 a _ _ ?_).mono ?_
  · rw [World.cell?_alloc_lt _ _ _ hlt]; exact hc
  rintro e w' ⟨rfl, rfl⟩
  go_wp2
  go_ret
  exact .mk (hown.alloc _) ((Below.refl _ _).alloc hb _)
end Go.Proofs.Ytkhpglongkhbjaa
