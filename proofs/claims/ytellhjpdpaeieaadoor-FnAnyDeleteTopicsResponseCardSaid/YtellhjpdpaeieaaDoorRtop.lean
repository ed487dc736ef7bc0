/- What readgen.py's texts lean on. -/
import Derived.Test.YtellhjpdpaeieaaDoorTgf
import Derived.Test.YtellhjpdpaeieaaDoorLeaf
import Derived.Test.YtellhjpdpaeieaaDoorRuu
namespace Go.Proofs.YtellhjpdpaeieaaDoor
open Go Go.RowKit
theorem kokD {N lo t : Nat} {K : Slots} (h : (K.map (·.1)).all (fun a => decide (a ≠ 1) && (decide (a < lo) || (decide (N ≤ a) && decide (a < t)))) = true) : KOK N lo t K := by
  intro p hp
  have h1 := List.all_eq_true.1 h p.1 (List.mem_map_of_mem hp)
  simp only [Bool.and_eq_true, Bool.or_eq_true, decide_eq_true_eq] at h1
  exact h1
theorem mcReader : ManyCells Tryd.prog 119 2 := ⟨fun w => Tryd.isAgg119 w, ⟨Tryd.t119, _, by kernel_rfl, rfl, rfl, rfl⟩⟩
end Go.Proofs.YtellhjpdpaeieaaDoor
