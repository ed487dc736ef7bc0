/-
  DERIVED. GIVEN WITH THE SEED: THE CARDS: each row of YtdkonfgjmgeljaaDoorRows.lean that lists a variable, with what it lists TIED to the program's text (the seventh form; the later family's looks); each row that meets fmt, with fmt's text TOLD by the authors' own Lean function (tested against real Go, not proved from fmt's source: count such statements apart). THE CARD IS WHAT COUNTS. Prove the row's statement (the work); the ties are given (YtdkonfgjmgeljaaDoorTie.lean); close each card by the builder's one call (the guide's Derived/Test/ToyasCard.lean, 'card_holds'). Laid BY PROGRAM, IN A SANDBOX (cutbox-door.mjs). By AI agents, Wed Nov 11 2026. No macro, syntax, notation, axiom, sorry.
-/
import Derived.Test.YtdkonfgjmgeljaaDoorRows
import GoSem.ClaimSeven
namespace Go.Proofs.YtdkonfgjmgeljaaDoor
namespace Rows

/-- THE TIED CARD OF 'laws.FnAnyStopReplicaResponse'. -/
def fnAnyStopReplicaResponseCard : Claim7 := { stood := { row := fnAnyStopReplicaResponseRow, standIns := [], harness := (true, "f0ecf9a26d285022b5402163b122070c27e400702d0a4e3deba079695ca9ec99"), looks := false }, kinds := [], alts := [], laidByText := true, laidKinds := [.sentinel], laidTests := true, laidLooks := .later }
def FnAnyStopReplicaResponseCardSaid : Prop := Claim7.holds Tryd.pinned (.plain (OpenSpec.ofChange fnAnyStopReplicaResponseSpec)) fnAnyStopReplicaResponseCard

/-- THE TIED CARD OF 'laws.FnAnyListPartitionReassignmentsRequest'. -/
def fnAnyListPartitionReassignmentsRequestCard : Claim7 := { stood := { row := fnAnyListPartitionReassignmentsRequestRow, standIns := [], harness := (true, "f0ecf9a26d285022b5402163b122070c27e400702d0a4e3deba079695ca9ec99"), looks := false }, kinds := [], alts := [], laidByText := true, laidKinds := [.sentinel], laidTests := true, laidLooks := .later }
def FnAnyListPartitionReassignmentsRequestCardSaid : Prop := Claim7.holds Tryd.pinned (.plain (OpenSpec.ofChange fnAnyListPartitionReassignmentsRequestSpec)) fnAnyListPartitionReassignmentsRequestCard

/-- THE TIED CARD OF 'laws.FnAnyInitializeShareGroupStateResponse'. -/
def fnAnyInitializeShareGroupStateResponseCard : Claim7 := { stood := { row := fnAnyInitializeShareGroupStateResponseRow, standIns := [], harness := (true, "f0ecf9a26d285022b5402163b122070c27e400702d0a4e3deba079695ca9ec99"), looks := false }, kinds := [], alts := [], laidByText := true, laidKinds := [.sentinel], laidTests := true, laidLooks := .later }
def FnAnyInitializeShareGroupStateResponseCardSaid : Prop := Claim7.holds Tryd.pinned (.plain (OpenSpec.ofChange fnAnyInitializeShareGroupStateResponseSpec)) fnAnyInitializeShareGroupStateResponseCard

/-- THE TIED CARD OF 'laws.FnAnyOffsetForLeaderEpochResponse'. -/
def fnAnyOffsetForLeaderEpochResponseCard : Claim7 := { stood := { row := fnAnyOffsetForLeaderEpochResponseRow, standIns := [], harness := (true, "f0ecf9a26d285022b5402163b122070c27e400702d0a4e3deba079695ca9ec99"), looks := false }, kinds := [], alts := [], laidByText := true, laidKinds := [.sentinel], laidTests := true, laidLooks := .later }
def FnAnyOffsetForLeaderEpochResponseCardSaid : Prop := Claim7.holds Tryd.pinned (.plain (OpenSpec.ofChange fnAnyOffsetForLeaderEpochResponseSpec)) fnAnyOffsetForLeaderEpochResponseCard

/-- THE TIED CARD OF 'laws.FnAnyDeleteTopicsResponse'. -/
def fnAnyDeleteTopicsResponseCard : Claim7 := { stood := { row := fnAnyDeleteTopicsResponseRow, standIns := [], harness := (true, "f0ecf9a26d285022b5402163b122070c27e400702d0a4e3deba079695ca9ec99"), looks := false }, kinds := [], alts := [], laidByText := true, laidKinds := [.sentinel], laidTests := true, laidLooks := .later }
def FnAnyDeleteTopicsResponseCardSaid : Prop := Claim7.holds Tryd.pinned (.plain (OpenSpec.ofChange fnAnyDeleteTopicsResponseSpec)) fnAnyDeleteTopicsResponseCard

/-- THE SECOND FORM's CARD OF 'laws.FnAnyStopReplicaResponse'. -/
def fnAnyStopReplicaResponseUptoCard : Claim7 := { stood := { row := fnAnyStopReplicaResponseUptoRow, standIns := [], harness := (true, "f0ecf9a26d285022b5402163b122070c27e400702d0a4e3deba079695ca9ec99"), looks := false }, kinds := [], alts := [], laidByText := true, laidKinds := [.sentinel], laidTests := true, laidLooks := .later }
def FnAnyStopReplicaResponseUptoCardSaid : Prop := Claim7.holds Tryd.pinned (.plain (OpenSpec.upto fnAnyStopReplicaResponseSpec)) fnAnyStopReplicaResponseUptoCard

/-- THE SECOND FORM's CARD OF 'laws.FnAnyListPartitionReassignmentsRequest'. -/
def fnAnyListPartitionReassignmentsRequestUptoCard : Claim7 := { stood := { row := fnAnyListPartitionReassignmentsRequestUptoRow, standIns := [], harness := (true, "f0ecf9a26d285022b5402163b122070c27e400702d0a4e3deba079695ca9ec99"), looks := false }, kinds := [], alts := [], laidByText := true, laidKinds := [.sentinel], laidTests := true, laidLooks := .later }
def FnAnyListPartitionReassignmentsRequestUptoCardSaid : Prop := Claim7.holds Tryd.pinned (.plain (OpenSpec.upto fnAnyListPartitionReassignmentsRequestSpec)) fnAnyListPartitionReassignmentsRequestUptoCard

/-- THE SECOND FORM's CARD OF 'laws.FnAnyInitializeShareGroupStateResponse'. -/
def fnAnyInitializeShareGroupStateResponseUptoCard : Claim7 := { stood := { row := fnAnyInitializeShareGroupStateResponseUptoRow, standIns := [], harness := (true, "f0ecf9a26d285022b5402163b122070c27e400702d0a4e3deba079695ca9ec99"), looks := false }, kinds := [], alts := [], laidByText := true, laidKinds := [.sentinel], laidTests := true, laidLooks := .later }
def FnAnyInitializeShareGroupStateResponseUptoCardSaid : Prop := Claim7.holds Tryd.pinned (.plain (OpenSpec.upto fnAnyInitializeShareGroupStateResponseSpec)) fnAnyInitializeShareGroupStateResponseUptoCard

/-- THE SECOND FORM's CARD OF 'laws.FnAnyOffsetForLeaderEpochResponse'. -/
def fnAnyOffsetForLeaderEpochResponseUptoCard : Claim7 := { stood := { row := fnAnyOffsetForLeaderEpochResponseUptoRow, standIns := [], harness := (true, "f0ecf9a26d285022b5402163b122070c27e400702d0a4e3deba079695ca9ec99"), looks := false }, kinds := [], alts := [], laidByText := true, laidKinds := [.sentinel], laidTests := true, laidLooks := .later }
def FnAnyOffsetForLeaderEpochResponseUptoCardSaid : Prop := Claim7.holds Tryd.pinned (.plain (OpenSpec.upto fnAnyOffsetForLeaderEpochResponseSpec)) fnAnyOffsetForLeaderEpochResponseUptoCard

/-- THE SECOND FORM's CARD OF 'laws.FnAnyDeleteTopicsResponse'. -/
def fnAnyDeleteTopicsResponseUptoCard : Claim7 := { stood := { row := fnAnyDeleteTopicsResponseUptoRow, standIns := [], harness := (true, "f0ecf9a26d285022b5402163b122070c27e400702d0a4e3deba079695ca9ec99"), looks := false }, kinds := [], alts := [], laidByText := true, laidKinds := [.sentinel], laidTests := true, laidLooks := .later }
def FnAnyDeleteTopicsResponseUptoCardSaid : Prop := Claim7.holds Tryd.pinned (.plain (OpenSpec.upto fnAnyDeleteTopicsResponseSpec)) fnAnyDeleteTopicsResponseUptoCard
end Rows
end Go.Proofs.YtdkonfgjmgeljaaDoor
