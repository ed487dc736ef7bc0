/-
  DERIVED. GIVEN WITH THE SEED: THE CARDS: each row of YtfchajjllhndlaaGreatDoorRows.lean that lists a variable, with what it lists TIED to the program's text (the seventh form; the later family's looks); each row that meets fmt, with fmt's text TOLD by the authors' own Lean function (tested against real Go, not proved from fmt's source: count such statements apart). THE CARD IS WHAT COUNTS. Prove the row's statement (the work); the ties are given (YtfchajjllhndlaaGreatDoorTie.lean); close each card by the builder's one call (the guide's Derived/Test/ToyasCard.lean, 'card_holds'). Laid BY PROGRAM, IN A SANDBOX (cutbox-door.mjs). By AI agents, Wed Nov 11 2026. No macro, syntax, notation, axiom, sorry.
-/
import Derived.Test.YtfchajjllhndlaaGreatDoorRows
import GoSem.ClaimSeven
namespace Go.Proofs.YtfchajjllhndlaaGreatDoor
namespace Rows

/-- THE TIED CARD OF 'laws.FnCutDescribeDelegationTokenRequest'. -/
def fnCutDescribeDelegationTokenRequestCard : Claim7 := { stood := { row := fnCutDescribeDelegationTokenRequestRow, standIns := [], harness := (true, "95a2bb7c0c43f48a5df9bb03a8b5aeaeef871fdd2c8edee46b3f2b8ed0e154f8"), looks := false }, kinds := [], alts := [], laidByText := true, laidKinds := [.sentinel], laidTests := true, laidLooks := .later }
def FnCutDescribeDelegationTokenRequestCardSaid : Prop := Claim7.holds Tryz.pinned (.plain (OpenSpec.ofChange fnCutDescribeDelegationTokenRequestSpec)) fnCutDescribeDelegationTokenRequestCard

/-- THE TIED CARD OF 'laws.FnCutListGroupsRequest'. -/
def fnCutListGroupsRequestCard : Claim7 := { stood := { row := fnCutListGroupsRequestRow, standIns := [], harness := (true, "95a2bb7c0c43f48a5df9bb03a8b5aeaeef871fdd2c8edee46b3f2b8ed0e154f8"), looks := false }, kinds := [], alts := [], laidByText := true, laidKinds := [.sentinel], laidTests := true, laidLooks := .later }
def FnCutListGroupsRequestCardSaid : Prop := Claim7.holds Tryz.pinned (.plain (OpenSpec.ofChange fnCutListGroupsRequestSpec)) fnCutListGroupsRequestCard

/-- THE TIED CARD OF 'laws.FnCutAlterReplicaLogDirsRequest'. -/
def fnCutAlterReplicaLogDirsRequestCard : Claim7 := { stood := { row := fnCutAlterReplicaLogDirsRequestRow, standIns := [], harness := (true, "95a2bb7c0c43f48a5df9bb03a8b5aeaeef871fdd2c8edee46b3f2b8ed0e154f8"), looks := false }, kinds := [], alts := [], laidByText := true, laidKinds := [.sentinel], laidTests := true, laidLooks := .later }
def FnCutAlterReplicaLogDirsRequestCardSaid : Prop := Claim7.holds Tryz.pinned (.plain (OpenSpec.ofChange fnCutAlterReplicaLogDirsRequestSpec)) fnCutAlterReplicaLogDirsRequestCard

/-- THE TIED CARD OF 'laws.FnCutCreateDelegationTokenRequest'. -/
def fnCutCreateDelegationTokenRequestCard : Claim7 := { stood := { row := fnCutCreateDelegationTokenRequestRow, standIns := [], harness := (true, "95a2bb7c0c43f48a5df9bb03a8b5aeaeef871fdd2c8edee46b3f2b8ed0e154f8"), looks := false }, kinds := [], alts := [], laidByText := true, laidKinds := [.sentinel], laidTests := true, laidLooks := .later }
def FnCutCreateDelegationTokenRequestCardSaid : Prop := Claim7.holds Tryz.pinned (.plain (OpenSpec.ofChange fnCutCreateDelegationTokenRequestSpec)) fnCutCreateDelegationTokenRequestCard

/-- THE TIED CARD OF 'laws.FnAgainDeleteGroupsResponse'. -/
def fnAgainDeleteGroupsResponseCard : Claim7 := { stood := { row := fnAgainDeleteGroupsResponseRow, standIns := [], harness := (true, "95a2bb7c0c43f48a5df9bb03a8b5aeaeef871fdd2c8edee46b3f2b8ed0e154f8"), looks := false }, kinds := [], alts := [], laidByText := true, laidKinds := [.sentinel], laidTests := true, laidLooks := .later }
def FnAgainDeleteGroupsResponseCardSaid : Prop := Claim7.holds Tryz.pinned (.plain (OpenSpec.ofChange fnAgainDeleteGroupsResponseSpec)) fnAgainDeleteGroupsResponseCard

/-- THE TIED CARD OF 'laws.FnAgainGetTelemetrySubscriptionsResponse'. -/
def fnAgainGetTelemetrySubscriptionsResponseCard : Claim7 := { stood := { row := fnAgainGetTelemetrySubscriptionsResponseRow, standIns := [], harness := (true, "95a2bb7c0c43f48a5df9bb03a8b5aeaeef871fdd2c8edee46b3f2b8ed0e154f8"), looks := false }, kinds := [], alts := [], laidByText := true, laidKinds := [.sentinel], laidTests := true, laidLooks := .later }
def FnAgainGetTelemetrySubscriptionsResponseCardSaid : Prop := Claim7.holds Tryz.pinned (.plain (OpenSpec.ofChange fnAgainGetTelemetrySubscriptionsResponseSpec)) fnAgainGetTelemetrySubscriptionsResponseCard

/-- THE TIED CARD OF 'laws.FnAgainLeaveGroupRequest'. -/
def fnAgainLeaveGroupRequestCard : Claim7 := { stood := { row := fnAgainLeaveGroupRequestRow, standIns := [], harness := (true, "95a2bb7c0c43f48a5df9bb03a8b5aeaeef871fdd2c8edee46b3f2b8ed0e154f8"), looks := false }, kinds := [], alts := [], laidByText := true, laidKinds := [.sentinel], laidTests := true, laidLooks := .later }
def FnAgainLeaveGroupRequestCardSaid : Prop := Claim7.holds Tryz.pinned (.plain (OpenSpec.ofChange fnAgainLeaveGroupRequestSpec)) fnAgainLeaveGroupRequestCard

/-- THE TIED CARD OF 'laws.FnAgainReadShareGroupStateRequest'. -/
def fnAgainReadShareGroupStateRequestCard : Claim7 := { stood := { row := fnAgainReadShareGroupStateRequestRow, standIns := [], harness := (true, "95a2bb7c0c43f48a5df9bb03a8b5aeaeef871fdd2c8edee46b3f2b8ed0e154f8"), looks := false }, kinds := [], alts := [], laidByText := true, laidKinds := [.sentinel], laidTests := true, laidLooks := .later }
def FnAgainReadShareGroupStateRequestCardSaid : Prop := Claim7.holds Tryz.pinned (.plain (OpenSpec.ofChange fnAgainReadShareGroupStateRequestSpec)) fnAgainReadShareGroupStateRequestCard

/-- THE SECOND FORM's CARD OF 'laws.FnCutDescribeDelegationTokenRequest'. -/
def fnCutDescribeDelegationTokenRequestUptoCard : Claim7 := { stood := { row := fnCutDescribeDelegationTokenRequestUptoRow, standIns := [], harness := (true, "95a2bb7c0c43f48a5df9bb03a8b5aeaeef871fdd2c8edee46b3f2b8ed0e154f8"), looks := false }, kinds := [], alts := [], laidByText := true, laidKinds := [.sentinel], laidTests := true, laidLooks := .later }
def FnCutDescribeDelegationTokenRequestUptoCardSaid : Prop := Claim7.holds Tryz.pinned (.plain (OpenSpec.upto fnCutDescribeDelegationTokenRequestSpec)) fnCutDescribeDelegationTokenRequestUptoCard

/-- THE SECOND FORM's CARD OF 'laws.FnCutListGroupsRequest'. -/
def fnCutListGroupsRequestUptoCard : Claim7 := { stood := { row := fnCutListGroupsRequestUptoRow, standIns := [], harness := (true, "95a2bb7c0c43f48a5df9bb03a8b5aeaeef871fdd2c8edee46b3f2b8ed0e154f8"), looks := false }, kinds := [], alts := [], laidByText := true, laidKinds := [.sentinel], laidTests := true, laidLooks := .later }
def FnCutListGroupsRequestUptoCardSaid : Prop := Claim7.holds Tryz.pinned (.plain (OpenSpec.upto fnCutListGroupsRequestSpec)) fnCutListGroupsRequestUptoCard

/-- THE SECOND FORM's CARD OF 'laws.FnCutAlterReplicaLogDirsRequest'. -/
def fnCutAlterReplicaLogDirsRequestUptoCard : Claim7 := { stood := { row := fnCutAlterReplicaLogDirsRequestUptoRow, standIns := [], harness := (true, "95a2bb7c0c43f48a5df9bb03a8b5aeaeef871fdd2c8edee46b3f2b8ed0e154f8"), looks := false }, kinds := [], alts := [], laidByText := true, laidKinds := [.sentinel], laidTests := true, laidLooks := .later }
def FnCutAlterReplicaLogDirsRequestUptoCardSaid : Prop := Claim7.holds Tryz.pinned (.plain (OpenSpec.upto fnCutAlterReplicaLogDirsRequestSpec)) fnCutAlterReplicaLogDirsRequestUptoCard

/-- THE SECOND FORM's CARD OF 'laws.FnCutCreateDelegationTokenRequest'. -/
def fnCutCreateDelegationTokenRequestUptoCard : Claim7 := { stood := { row := fnCutCreateDelegationTokenRequestUptoRow, standIns := [], harness := (true, "95a2bb7c0c43f48a5df9bb03a8b5aeaeef871fdd2c8edee46b3f2b8ed0e154f8"), looks := false }, kinds := [], alts := [], laidByText := true, laidKinds := [.sentinel], laidTests := true, laidLooks := .later }
def FnCutCreateDelegationTokenRequestUptoCardSaid : Prop := Claim7.holds Tryz.pinned (.plain (OpenSpec.upto fnCutCreateDelegationTokenRequestSpec)) fnCutCreateDelegationTokenRequestUptoCard

/-- THE SECOND FORM's CARD OF 'laws.FnAgainDeleteGroupsResponse'. -/
def fnAgainDeleteGroupsResponseUptoCard : Claim7 := { stood := { row := fnAgainDeleteGroupsResponseUptoRow, standIns := [], harness := (true, "95a2bb7c0c43f48a5df9bb03a8b5aeaeef871fdd2c8edee46b3f2b8ed0e154f8"), looks := false }, kinds := [], alts := [], laidByText := true, laidKinds := [.sentinel], laidTests := true, laidLooks := .later }
def FnAgainDeleteGroupsResponseUptoCardSaid : Prop := Claim7.holds Tryz.pinned (.plain (OpenSpec.upto fnAgainDeleteGroupsResponseSpec)) fnAgainDeleteGroupsResponseUptoCard

/-- THE SECOND FORM's CARD OF 'laws.FnAgainGetTelemetrySubscriptionsResponse'. -/
def fnAgainGetTelemetrySubscriptionsResponseUptoCard : Claim7 := { stood := { row := fnAgainGetTelemetrySubscriptionsResponseUptoRow, standIns := [], harness := (true, "95a2bb7c0c43f48a5df9bb03a8b5aeaeef871fdd2c8edee46b3f2b8ed0e154f8"), looks := false }, kinds := [], alts := [], laidByText := true, laidKinds := [.sentinel], laidTests := true, laidLooks := .later }
def FnAgainGetTelemetrySubscriptionsResponseUptoCardSaid : Prop := Claim7.holds Tryz.pinned (.plain (OpenSpec.upto fnAgainGetTelemetrySubscriptionsResponseSpec)) fnAgainGetTelemetrySubscriptionsResponseUptoCard

/-- THE SECOND FORM's CARD OF 'laws.FnAgainLeaveGroupRequest'. -/
def fnAgainLeaveGroupRequestUptoCard : Claim7 := { stood := { row := fnAgainLeaveGroupRequestUptoRow, standIns := [], harness := (true, "95a2bb7c0c43f48a5df9bb03a8b5aeaeef871fdd2c8edee46b3f2b8ed0e154f8"), looks := false }, kinds := [], alts := [], laidByText := true, laidKinds := [.sentinel], laidTests := true, laidLooks := .later }
def FnAgainLeaveGroupRequestUptoCardSaid : Prop := Claim7.holds Tryz.pinned (.plain (OpenSpec.upto fnAgainLeaveGroupRequestSpec)) fnAgainLeaveGroupRequestUptoCard

/-- THE SECOND FORM's CARD OF 'laws.FnAgainReadShareGroupStateRequest'. -/
def fnAgainReadShareGroupStateRequestUptoCard : Claim7 := { stood := { row := fnAgainReadShareGroupStateRequestUptoRow, standIns := [], harness := (true, "95a2bb7c0c43f48a5df9bb03a8b5aeaeef871fdd2c8edee46b3f2b8ed0e154f8"), looks := false }, kinds := [], alts := [], laidByText := true, laidKinds := [.sentinel], laidTests := true, laidLooks := .later }
def FnAgainReadShareGroupStateRequestUptoCardSaid : Prop := Claim7.holds Tryz.pinned (.plain (OpenSpec.upto fnAgainReadShareGroupStateRequestSpec)) fnAgainReadShareGroupStateRequestUptoCard
end Rows
end Go.Proofs.YtfchajjllhndlaaGreatDoor
