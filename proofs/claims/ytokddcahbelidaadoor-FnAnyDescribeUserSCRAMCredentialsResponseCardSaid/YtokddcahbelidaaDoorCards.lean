/-
  DERIVED. GIVEN WITH THE SEED: THE CARDS: each row of YtokddcahbelidaaDoorRows.lean that lists a variable, with what it lists TIED to the program's text (the seventh form; the later family's looks); each row that meets fmt, with fmt's text TOLD by the authors' own Lean function (tested against real Go, not proved from fmt's source: count such statements apart). THE CARD IS WHAT COUNTS. Prove the row's statement (the work); the ties are given (YtokddcahbelidaaDoorTie.lean); close each card by the builder's one call (the guide's Derived/Test/ToyasCard.lean, 'card_holds'). Laid BY PROGRAM, IN A SANDBOX (cutbox-door.mjs). By AI agents, Wed Nov 11 2026. No macro, syntax, notation, axiom, sorry.
-/
import Derived.Test.YtokddcahbelidaaDoorRows
import GoSem.ClaimSeven
namespace Go.Proofs.YtokddcahbelidaaDoor
namespace Rows

/-- THE TIED CARD OF 'laws.FnAnyWriteTxnMarkersResponse'. -/
def fnAnyWriteTxnMarkersResponseCard : Claim7 := { stood := { row := fnAnyWriteTxnMarkersResponseRow, standIns := [], harness := (true, "f7a663f49f16781c23583ac3abeb445fa8a0f5323fdc88720ed817e0575832b8"), looks := false }, kinds := [], alts := [], laidByText := true, laidKinds := [.sentinel], laidTests := true, laidLooks := .later }
def FnAnyWriteTxnMarkersResponseCardSaid : Prop := Claim7.holds Tryd.pinned (.plain (OpenSpec.ofChange fnAnyWriteTxnMarkersResponseSpec)) fnAnyWriteTxnMarkersResponseCard

/-- THE TIED CARD OF 'laws.FnAnyAlterUserSCRAMCredentialsRequest'. -/
def fnAnyAlterUserSCRAMCredentialsRequestCard : Claim7 := { stood := { row := fnAnyAlterUserSCRAMCredentialsRequestRow, standIns := [], harness := (true, "f7a663f49f16781c23583ac3abeb445fa8a0f5323fdc88720ed817e0575832b8"), looks := false }, kinds := [], alts := [], laidByText := true, laidKinds := [.sentinel], laidTests := true, laidLooks := .later }
def FnAnyAlterUserSCRAMCredentialsRequestCardSaid : Prop := Claim7.holds Tryd.pinned (.plain (OpenSpec.ofChange fnAnyAlterUserSCRAMCredentialsRequestSpec)) fnAnyAlterUserSCRAMCredentialsRequestCard

/-- THE TIED CARD OF 'laws.FnAnyDescribeUserSCRAMCredentialsResponse'. -/
def fnAnyDescribeUserSCRAMCredentialsResponseCard : Claim7 := { stood := { row := fnAnyDescribeUserSCRAMCredentialsResponseRow, standIns := [], harness := (true, "f7a663f49f16781c23583ac3abeb445fa8a0f5323fdc88720ed817e0575832b8"), looks := false }, kinds := [], alts := [], laidByText := true, laidKinds := [.sentinel], laidTests := true, laidLooks := .later }
def FnAnyDescribeUserSCRAMCredentialsResponseCardSaid : Prop := Claim7.holds Tryd.pinned (.plain (OpenSpec.ofChange fnAnyDescribeUserSCRAMCredentialsResponseSpec)) fnAnyDescribeUserSCRAMCredentialsResponseCard

/-- THE TIED CARD OF 'laws.FnAnyCreateTopicsRequest'. -/
def fnAnyCreateTopicsRequestCard : Claim7 := { stood := { row := fnAnyCreateTopicsRequestRow, standIns := [], harness := (true, "f7a663f49f16781c23583ac3abeb445fa8a0f5323fdc88720ed817e0575832b8"), looks := false }, kinds := [], alts := [], laidByText := true, laidKinds := [.sentinel], laidTests := true, laidLooks := .later }
def FnAnyCreateTopicsRequestCardSaid : Prop := Claim7.holds Tryd.pinned (.plain (OpenSpec.ofChange fnAnyCreateTopicsRequestSpec)) fnAnyCreateTopicsRequestCard

/-- THE TIED CARD OF 'laws.FnAnyFetchSnapshotRequest'. -/
def fnAnyFetchSnapshotRequestCard : Claim7 := { stood := { row := fnAnyFetchSnapshotRequestRow, standIns := [], harness := (true, "f7a663f49f16781c23583ac3abeb445fa8a0f5323fdc88720ed817e0575832b8"), looks := false }, kinds := [], alts := [], laidByText := true, laidKinds := [.sentinel], laidTests := true, laidLooks := .later }
def FnAnyFetchSnapshotRequestCardSaid : Prop := Claim7.holds Tryd.pinned (.plain (OpenSpec.ofChange fnAnyFetchSnapshotRequestSpec)) fnAnyFetchSnapshotRequestCard

/-- THE SECOND FORM's CARD OF 'laws.FnAnyWriteTxnMarkersResponse'. -/
def fnAnyWriteTxnMarkersResponseUptoCard : Claim7 := { stood := { row := fnAnyWriteTxnMarkersResponseUptoRow, standIns := [], harness := (true, "f7a663f49f16781c23583ac3abeb445fa8a0f5323fdc88720ed817e0575832b8"), looks := false }, kinds := [], alts := [], laidByText := true, laidKinds := [.sentinel], laidTests := true, laidLooks := .later }
def FnAnyWriteTxnMarkersResponseUptoCardSaid : Prop := Claim7.holds Tryd.pinned (.plain (OpenSpec.upto fnAnyWriteTxnMarkersResponseSpec)) fnAnyWriteTxnMarkersResponseUptoCard

/-- THE SECOND FORM's CARD OF 'laws.FnAnyAlterUserSCRAMCredentialsRequest'. -/
def fnAnyAlterUserSCRAMCredentialsRequestUptoCard : Claim7 := { stood := { row := fnAnyAlterUserSCRAMCredentialsRequestUptoRow, standIns := [], harness := (true, "f7a663f49f16781c23583ac3abeb445fa8a0f5323fdc88720ed817e0575832b8"), looks := false }, kinds := [], alts := [], laidByText := true, laidKinds := [.sentinel], laidTests := true, laidLooks := .later }
def FnAnyAlterUserSCRAMCredentialsRequestUptoCardSaid : Prop := Claim7.holds Tryd.pinned (.plain (OpenSpec.upto fnAnyAlterUserSCRAMCredentialsRequestSpec)) fnAnyAlterUserSCRAMCredentialsRequestUptoCard

/-- THE SECOND FORM's CARD OF 'laws.FnAnyDescribeUserSCRAMCredentialsResponse'. -/
def fnAnyDescribeUserSCRAMCredentialsResponseUptoCard : Claim7 := { stood := { row := fnAnyDescribeUserSCRAMCredentialsResponseUptoRow, standIns := [], harness := (true, "f7a663f49f16781c23583ac3abeb445fa8a0f5323fdc88720ed817e0575832b8"), looks := false }, kinds := [], alts := [], laidByText := true, laidKinds := [.sentinel], laidTests := true, laidLooks := .later }
def FnAnyDescribeUserSCRAMCredentialsResponseUptoCardSaid : Prop := Claim7.holds Tryd.pinned (.plain (OpenSpec.upto fnAnyDescribeUserSCRAMCredentialsResponseSpec)) fnAnyDescribeUserSCRAMCredentialsResponseUptoCard

/-- THE SECOND FORM's CARD OF 'laws.FnAnyCreateTopicsRequest'. -/
def fnAnyCreateTopicsRequestUptoCard : Claim7 := { stood := { row := fnAnyCreateTopicsRequestUptoRow, standIns := [], harness := (true, "f7a663f49f16781c23583ac3abeb445fa8a0f5323fdc88720ed817e0575832b8"), looks := false }, kinds := [], alts := [], laidByText := true, laidKinds := [.sentinel], laidTests := true, laidLooks := .later }
def FnAnyCreateTopicsRequestUptoCardSaid : Prop := Claim7.holds Tryd.pinned (.plain (OpenSpec.upto fnAnyCreateTopicsRequestSpec)) fnAnyCreateTopicsRequestUptoCard

/-- THE SECOND FORM's CARD OF 'laws.FnAnyFetchSnapshotRequest'. -/
def fnAnyFetchSnapshotRequestUptoCard : Claim7 := { stood := { row := fnAnyFetchSnapshotRequestUptoRow, standIns := [], harness := (true, "f7a663f49f16781c23583ac3abeb445fa8a0f5323fdc88720ed817e0575832b8"), looks := false }, kinds := [], alts := [], laidByText := true, laidKinds := [.sentinel], laidTests := true, laidLooks := .later }
def FnAnyFetchSnapshotRequestUptoCardSaid : Prop := Claim7.holds Tryd.pinned (.plain (OpenSpec.upto fnAnyFetchSnapshotRequestSpec)) fnAnyFetchSnapshotRequestUptoCard
end Rows
end Go.Proofs.YtokddcahbelidaaDoor
