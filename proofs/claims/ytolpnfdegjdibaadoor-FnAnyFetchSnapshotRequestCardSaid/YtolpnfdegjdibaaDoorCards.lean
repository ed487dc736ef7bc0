/-
  DERIVED. GIVEN WITH THE SEED: THE CARDS: each row of YtolpnfdegjdibaaDoorRows.lean that lists a variable, with what it lists TIED to the program's text (the seventh form; the later family's looks); each row that meets fmt, with fmt's text TOLD by the authors' own Lean function (tested against real Go, not proved from fmt's source: count such statements apart). THE CARD IS WHAT COUNTS. Prove the row's statement (the work); the ties are given (YtolpnfdegjdibaaDoorTie.lean); close each card by the builder's one call (the guide's Derived/Test/ToyasCard.lean, 'card_holds'). Laid BY PROGRAM, IN A SANDBOX (cutbox-door.mjs). By AI agents, Wed Nov 11 2026. No macro, syntax, notation, axiom, sorry.
-/
import Derived.Test.YtolpnfdegjdibaaDoorRows
import GoSem.ClaimSeven
namespace Go.Proofs.YtolpnfdegjdibaaDoor
namespace Rows

/-- THE TIED CARD OF 'laws.FnAnyFetchSnapshotRequest'. -/
def fnAnyFetchSnapshotRequestCard : Claim7 := { stood := { row := fnAnyFetchSnapshotRequestRow, standIns := [], harness := (true, "097e0dc2a92924d91fa081670b5b9cf478b6e4b11b66da79344c5392e38d0a2c"), looks := false }, kinds := [], alts := [], laidByText := true, laidKinds := [.sentinel], laidTests := true, laidLooks := .later }
def FnAnyFetchSnapshotRequestCardSaid : Prop := Claim7.holds Tryd.pinned (.plain (OpenSpec.ofChange fnAnyFetchSnapshotRequestSpec)) fnAnyFetchSnapshotRequestCard

/-- THE SECOND FORM's CARD OF 'laws.FnAnyFetchSnapshotRequest'. -/
def fnAnyFetchSnapshotRequestUptoCard : Claim7 := { stood := { row := fnAnyFetchSnapshotRequestUptoRow, standIns := [], harness := (true, "097e0dc2a92924d91fa081670b5b9cf478b6e4b11b66da79344c5392e38d0a2c"), looks := false }, kinds := [], alts := [], laidByText := true, laidKinds := [.sentinel], laidTests := true, laidLooks := .later }
def FnAnyFetchSnapshotRequestUptoCardSaid : Prop := Claim7.holds Tryd.pinned (.plain (OpenSpec.upto fnAnyFetchSnapshotRequestSpec)) fnAnyFetchSnapshotRequestUptoCard
end Rows
end Go.Proofs.YtolpnfdegjdibaaDoor
