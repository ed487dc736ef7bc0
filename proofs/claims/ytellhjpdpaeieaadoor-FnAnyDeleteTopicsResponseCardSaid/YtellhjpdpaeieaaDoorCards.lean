/-
  DERIVED. GIVEN WITH THE SEED: THE CARDS: each row of YtellhjpdpaeieaaDoorRows.lean that lists a variable, with what it lists TIED to the program's text (the seventh form; the later family's looks); each row that meets fmt, with fmt's text TOLD by the authors' own Lean function (tested against real Go, not proved from fmt's source: count such statements apart). THE CARD IS WHAT COUNTS. Prove the row's statement (the work); the ties are given (YtellhjpdpaeieaaDoorTie.lean); close each card by the builder's one call (the guide's Derived/Test/ToyasCard.lean, 'card_holds'). Laid BY PROGRAM, IN A SANDBOX (cutbox-door.mjs). By AI agents, Wed Nov 11 2026. No macro, syntax, notation, axiom, sorry.
-/
import Derived.Test.YtellhjpdpaeieaaDoorRows
import GoSem.ClaimSeven
namespace Go.Proofs.YtellhjpdpaeieaaDoor
namespace Rows

/-- THE TIED CARD OF 'laws.FnAnyUnregisterControllerRequest'. -/
def fnAnyUnregisterControllerRequestCard : Claim7 := { stood := { row := fnAnyUnregisterControllerRequestRow, standIns := [], harness := (true, "8beaf373eb7ff90dea58c4f663836083107f4c194c8d678ed263ee26e1f8422f"), looks := false }, kinds := [], alts := [], laidByText := true, laidKinds := [.sentinel], laidTests := true, laidLooks := .later }
def FnAnyUnregisterControllerRequestCardSaid : Prop := Claim7.holds Tryd.pinned (.plain (OpenSpec.ofChange fnAnyUnregisterControllerRequestSpec)) fnAnyUnregisterControllerRequestCard

/-- THE TIED CARD OF 'laws.FnAnyDescribeLogDirsRequest'. -/
def fnAnyDescribeLogDirsRequestCard : Claim7 := { stood := { row := fnAnyDescribeLogDirsRequestRow, standIns := [], harness := (true, "8beaf373eb7ff90dea58c4f663836083107f4c194c8d678ed263ee26e1f8422f"), looks := false }, kinds := [], alts := [], laidByText := true, laidKinds := [.sentinel], laidTests := true, laidLooks := .later }
def FnAnyDescribeLogDirsRequestCardSaid : Prop := Claim7.holds Tryd.pinned (.plain (OpenSpec.ofChange fnAnyDescribeLogDirsRequestSpec)) fnAnyDescribeLogDirsRequestCard

/-- THE TIED CARD OF 'laws.FnAnyInitializeShareGroupStateResponse'. -/
def fnAnyInitializeShareGroupStateResponseCard : Claim7 := { stood := { row := fnAnyInitializeShareGroupStateResponseRow, standIns := [], harness := (true, "8beaf373eb7ff90dea58c4f663836083107f4c194c8d678ed263ee26e1f8422f"), looks := false }, kinds := [], alts := [], laidByText := true, laidKinds := [.sentinel], laidTests := true, laidLooks := .later }
def FnAnyInitializeShareGroupStateResponseCardSaid : Prop := Claim7.holds Tryd.pinned (.plain (OpenSpec.ofChange fnAnyInitializeShareGroupStateResponseSpec)) fnAnyInitializeShareGroupStateResponseCard

/-- THE TIED CARD OF 'laws.FnAnyDeleteTopicsResponse'. -/
def fnAnyDeleteTopicsResponseCard : Claim7 := { stood := { row := fnAnyDeleteTopicsResponseRow, standIns := [], harness := (true, "8beaf373eb7ff90dea58c4f663836083107f4c194c8d678ed263ee26e1f8422f"), looks := false }, kinds := [], alts := [], laidByText := true, laidKinds := [.sentinel], laidTests := true, laidLooks := .later }
def FnAnyDeleteTopicsResponseCardSaid : Prop := Claim7.holds Tryd.pinned (.plain (OpenSpec.ofChange fnAnyDeleteTopicsResponseSpec)) fnAnyDeleteTopicsResponseCard

/-- THE TIED CARD OF 'laws.FnAnyCreateTopicsRequest'. -/
def fnAnyCreateTopicsRequestCard : Claim7 := { stood := { row := fnAnyCreateTopicsRequestRow, standIns := [], harness := (true, "8beaf373eb7ff90dea58c4f663836083107f4c194c8d678ed263ee26e1f8422f"), looks := false }, kinds := [], alts := [], laidByText := true, laidKinds := [.sentinel], laidTests := true, laidLooks := .later }
def FnAnyCreateTopicsRequestCardSaid : Prop := Claim7.holds Tryd.pinned (.plain (OpenSpec.ofChange fnAnyCreateTopicsRequestSpec)) fnAnyCreateTopicsRequestCard

/-- THE TIED CARD OF 'laws.FnAnyFetchSnapshotRequest'. -/
def fnAnyFetchSnapshotRequestCard : Claim7 := { stood := { row := fnAnyFetchSnapshotRequestRow, standIns := [], harness := (true, "8beaf373eb7ff90dea58c4f663836083107f4c194c8d678ed263ee26e1f8422f"), looks := false }, kinds := [], alts := [], laidByText := true, laidKinds := [.sentinel], laidTests := true, laidLooks := .later }
def FnAnyFetchSnapshotRequestCardSaid : Prop := Claim7.holds Tryd.pinned (.plain (OpenSpec.ofChange fnAnyFetchSnapshotRequestSpec)) fnAnyFetchSnapshotRequestCard

/-- THE SECOND FORM's CARD OF 'laws.FnAnyUnregisterControllerRequest'. -/
def fnAnyUnregisterControllerRequestUptoCard : Claim7 := { stood := { row := fnAnyUnregisterControllerRequestUptoRow, standIns := [], harness := (true, "8beaf373eb7ff90dea58c4f663836083107f4c194c8d678ed263ee26e1f8422f"), looks := false }, kinds := [], alts := [], laidByText := true, laidKinds := [.sentinel], laidTests := true, laidLooks := .later }
def FnAnyUnregisterControllerRequestUptoCardSaid : Prop := Claim7.holds Tryd.pinned (.plain (OpenSpec.upto fnAnyUnregisterControllerRequestSpec)) fnAnyUnregisterControllerRequestUptoCard

/-- THE SECOND FORM's CARD OF 'laws.FnAnyDescribeLogDirsRequest'. -/
def fnAnyDescribeLogDirsRequestUptoCard : Claim7 := { stood := { row := fnAnyDescribeLogDirsRequestUptoRow, standIns := [], harness := (true, "8beaf373eb7ff90dea58c4f663836083107f4c194c8d678ed263ee26e1f8422f"), looks := false }, kinds := [], alts := [], laidByText := true, laidKinds := [.sentinel], laidTests := true, laidLooks := .later }
def FnAnyDescribeLogDirsRequestUptoCardSaid : Prop := Claim7.holds Tryd.pinned (.plain (OpenSpec.upto fnAnyDescribeLogDirsRequestSpec)) fnAnyDescribeLogDirsRequestUptoCard

/-- THE SECOND FORM's CARD OF 'laws.FnAnyInitializeShareGroupStateResponse'. -/
def fnAnyInitializeShareGroupStateResponseUptoCard : Claim7 := { stood := { row := fnAnyInitializeShareGroupStateResponseUptoRow, standIns := [], harness := (true, "8beaf373eb7ff90dea58c4f663836083107f4c194c8d678ed263ee26e1f8422f"), looks := false }, kinds := [], alts := [], laidByText := true, laidKinds := [.sentinel], laidTests := true, laidLooks := .later }
def FnAnyInitializeShareGroupStateResponseUptoCardSaid : Prop := Claim7.holds Tryd.pinned (.plain (OpenSpec.upto fnAnyInitializeShareGroupStateResponseSpec)) fnAnyInitializeShareGroupStateResponseUptoCard

/-- THE SECOND FORM's CARD OF 'laws.FnAnyDeleteTopicsResponse'. -/
def fnAnyDeleteTopicsResponseUptoCard : Claim7 := { stood := { row := fnAnyDeleteTopicsResponseUptoRow, standIns := [], harness := (true, "8beaf373eb7ff90dea58c4f663836083107f4c194c8d678ed263ee26e1f8422f"), looks := false }, kinds := [], alts := [], laidByText := true, laidKinds := [.sentinel], laidTests := true, laidLooks := .later }
def FnAnyDeleteTopicsResponseUptoCardSaid : Prop := Claim7.holds Tryd.pinned (.plain (OpenSpec.upto fnAnyDeleteTopicsResponseSpec)) fnAnyDeleteTopicsResponseUptoCard

/-- THE SECOND FORM's CARD OF 'laws.FnAnyCreateTopicsRequest'. -/
def fnAnyCreateTopicsRequestUptoCard : Claim7 := { stood := { row := fnAnyCreateTopicsRequestUptoRow, standIns := [], harness := (true, "8beaf373eb7ff90dea58c4f663836083107f4c194c8d678ed263ee26e1f8422f"), looks := false }, kinds := [], alts := [], laidByText := true, laidKinds := [.sentinel], laidTests := true, laidLooks := .later }
def FnAnyCreateTopicsRequestUptoCardSaid : Prop := Claim7.holds Tryd.pinned (.plain (OpenSpec.upto fnAnyCreateTopicsRequestSpec)) fnAnyCreateTopicsRequestUptoCard

/-- THE SECOND FORM's CARD OF 'laws.FnAnyFetchSnapshotRequest'. -/
def fnAnyFetchSnapshotRequestUptoCard : Claim7 := { stood := { row := fnAnyFetchSnapshotRequestUptoRow, standIns := [], harness := (true, "8beaf373eb7ff90dea58c4f663836083107f4c194c8d678ed263ee26e1f8422f"), looks := false }, kinds := [], alts := [], laidByText := true, laidKinds := [.sentinel], laidTests := true, laidLooks := .later }
def FnAnyFetchSnapshotRequestUptoCardSaid : Prop := Claim7.holds Tryd.pinned (.plain (OpenSpec.upto fnAnyFetchSnapshotRequestSpec)) fnAnyFetchSnapshotRequestUptoCard
end Rows
end Go.Proofs.YtellhjpdpaeieaaDoor
