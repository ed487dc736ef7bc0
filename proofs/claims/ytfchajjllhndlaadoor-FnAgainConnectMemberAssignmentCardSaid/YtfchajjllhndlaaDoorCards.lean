/-
  DERIVED. GIVEN WITH THE SEED: THE CARDS: each row of YtfchajjllhndlaaDoorRows.lean that lists a variable, with what it lists TIED to the program's text (the seventh form; the later family's looks); each row that meets fmt, with fmt's text TOLD by the authors' own Lean function (tested against real Go, not proved from fmt's source: count such statements apart). THE CARD IS WHAT COUNTS. Prove the row's statement (the work); the ties are given (YtfchajjllhndlaaDoorTie.lean); close each card by the builder's one call (the guide's Derived/Test/ToyasCard.lean, 'card_holds'). Laid BY PROGRAM, IN A SANDBOX (cutbox-door.mjs). By AI agents, Wed Nov 11 2026. No macro, syntax, notation, axiom, sorry.
-/
import Derived.Test.YtfchajjllhndlaaDoorRows
import GoSem.ClaimSeven
namespace Go.Proofs.YtfchajjllhndlaaDoor
namespace Rows

/-- THE TIED CARD OF 'laws.FnCutOffsetDeleteResponse'. -/
def fnCutOffsetDeleteResponseCard : Claim7 := { stood := { row := fnCutOffsetDeleteResponseRow, standIns := [], harness := (true, "5a37b7e765cfa08b782c68413590d7ddb03db99e7ef3b8851cdbfc852da690e3"), looks := false }, kinds := [], alts := [], laidByText := true, laidKinds := [.sentinel], laidTests := true, laidLooks := .later }
def FnCutOffsetDeleteResponseCardSaid : Prop := Claim7.holds Tryd.pinned (.plain (OpenSpec.ofChange fnCutOffsetDeleteResponseSpec)) fnCutOffsetDeleteResponseCard

/-- THE TIED CARD OF 'laws.FnCutExpireDelegationTokenRequest'. -/
def fnCutExpireDelegationTokenRequestCard : Claim7 := { stood := { row := fnCutExpireDelegationTokenRequestRow, standIns := [], harness := (true, "5a37b7e765cfa08b782c68413590d7ddb03db99e7ef3b8851cdbfc852da690e3"), looks := false }, kinds := [], alts := [], laidByText := true, laidKinds := [.sentinel], laidTests := true, laidLooks := .later }
def FnCutExpireDelegationTokenRequestCardSaid : Prop := Claim7.holds Tryd.pinned (.plain (OpenSpec.ofChange fnCutExpireDelegationTokenRequestSpec)) fnCutExpireDelegationTokenRequestCard

/-- THE TIED CARD OF 'laws.FnCutControlRecordKey'. -/
def fnCutControlRecordKeyCard : Claim7 := { stood := { row := fnCutControlRecordKeyRow, standIns := [], harness := (true, "5a37b7e765cfa08b782c68413590d7ddb03db99e7ef3b8851cdbfc852da690e3"), looks := false }, kinds := [], alts := [], laidByText := true, laidKinds := [.sentinel], laidTests := true, laidLooks := .later }
def FnCutControlRecordKeyCardSaid : Prop := Claim7.holds Tryd.pinned (.plain (OpenSpec.ofChange fnCutControlRecordKeySpec)) fnCutControlRecordKeyCard

/-- THE TIED CARD OF 'laws.FnAgainConnectMemberAssignment'. -/
def fnAgainConnectMemberAssignmentCard : Claim7 := { stood := { row := fnAgainConnectMemberAssignmentRow, standIns := [], harness := (true, "5a37b7e765cfa08b782c68413590d7ddb03db99e7ef3b8851cdbfc852da690e3"), looks := false }, kinds := [], alts := [], laidByText := true, laidKinds := [.sentinel], laidTests := true, laidLooks := .later }
def FnAgainConnectMemberAssignmentCardSaid : Prop := Claim7.holds Tryd.pinned (.plain (OpenSpec.ofChange fnAgainConnectMemberAssignmentSpec)) fnAgainConnectMemberAssignmentCard

/-- THE SECOND FORM's CARD OF 'laws.FnCutOffsetDeleteResponse'. -/
def fnCutOffsetDeleteResponseUptoCard : Claim7 := { stood := { row := fnCutOffsetDeleteResponseUptoRow, standIns := [], harness := (true, "5a37b7e765cfa08b782c68413590d7ddb03db99e7ef3b8851cdbfc852da690e3"), looks := false }, kinds := [], alts := [], laidByText := true, laidKinds := [.sentinel], laidTests := true, laidLooks := .later }
def FnCutOffsetDeleteResponseUptoCardSaid : Prop := Claim7.holds Tryd.pinned (.plain (OpenSpec.upto fnCutOffsetDeleteResponseSpec)) fnCutOffsetDeleteResponseUptoCard

/-- THE SECOND FORM's CARD OF 'laws.FnCutExpireDelegationTokenRequest'. -/
def fnCutExpireDelegationTokenRequestUptoCard : Claim7 := { stood := { row := fnCutExpireDelegationTokenRequestUptoRow, standIns := [], harness := (true, "5a37b7e765cfa08b782c68413590d7ddb03db99e7ef3b8851cdbfc852da690e3"), looks := false }, kinds := [], alts := [], laidByText := true, laidKinds := [.sentinel], laidTests := true, laidLooks := .later }
def FnCutExpireDelegationTokenRequestUptoCardSaid : Prop := Claim7.holds Tryd.pinned (.plain (OpenSpec.upto fnCutExpireDelegationTokenRequestSpec)) fnCutExpireDelegationTokenRequestUptoCard

/-- THE SECOND FORM's CARD OF 'laws.FnCutControlRecordKey'. -/
def fnCutControlRecordKeyUptoCard : Claim7 := { stood := { row := fnCutControlRecordKeyUptoRow, standIns := [], harness := (true, "5a37b7e765cfa08b782c68413590d7ddb03db99e7ef3b8851cdbfc852da690e3"), looks := false }, kinds := [], alts := [], laidByText := true, laidKinds := [.sentinel], laidTests := true, laidLooks := .later }
def FnCutControlRecordKeyUptoCardSaid : Prop := Claim7.holds Tryd.pinned (.plain (OpenSpec.upto fnCutControlRecordKeySpec)) fnCutControlRecordKeyUptoCard

/-- THE SECOND FORM's CARD OF 'laws.FnAgainConnectMemberAssignment'. -/
def fnAgainConnectMemberAssignmentUptoCard : Claim7 := { stood := { row := fnAgainConnectMemberAssignmentUptoRow, standIns := [], harness := (true, "5a37b7e765cfa08b782c68413590d7ddb03db99e7ef3b8851cdbfc852da690e3"), looks := false }, kinds := [], alts := [], laidByText := true, laidKinds := [.sentinel], laidTests := true, laidLooks := .later }
def FnAgainConnectMemberAssignmentUptoCardSaid : Prop := Claim7.holds Tryd.pinned (.plain (OpenSpec.upto fnAgainConnectMemberAssignmentSpec)) fnAgainConnectMemberAssignmentUptoCard
end Rows
end Go.Proofs.YtfchajjllhndlaaDoor
