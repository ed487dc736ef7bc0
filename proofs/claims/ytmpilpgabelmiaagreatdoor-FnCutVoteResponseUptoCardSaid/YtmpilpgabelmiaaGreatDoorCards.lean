/-
  DERIVED. GIVEN WITH THE SEED: THE CARDS: each row of YtmpilpgabelmiaaGreatDoorRows.lean that lists a variable, with what it lists TIED to the program's text (the seventh form; the later family's looks); each row that meets fmt, with fmt's text TOLD by the authors' own Lean function (tested against real Go, not proved from fmt's source: count such statements apart). THE CARD IS WHAT COUNTS. Prove the row's statement (the work); the ties are given (YtmpilpgabelmiaaGreatDoorTie.lean); close each card by the builder's one call (the guide's Derived/Test/ToyasCard.lean, 'card_holds'). Laid BY PROGRAM, IN A SANDBOX (cutbox-door.mjs). By AI agents, Wed Nov 11 2026. No macro, syntax, notation, axiom, sorry.
-/
import Derived.Test.YtmpilpgabelmiaaGreatDoorRows
import GoSem.ClaimSeven
namespace Go.Proofs.YtmpilpgabelmiaaGreatDoor
namespace Rows

/-- THE TIED CARD OF 'laws.FnAgainTxnMetadataValue'. -/
def fnAgainTxnMetadataValueCard : Claim7 := { stood := { row := fnAgainTxnMetadataValueRow, standIns := [], harness := (true, "8547c0898238e2b8c50fecd3423d0d2546eac896b7caca3b5faa8b66f4b51d7e"), looks := false }, kinds := [], alts := [], laidByText := true, laidKinds := [.sentinel], laidTests := true, laidLooks := .later }
def FnAgainTxnMetadataValueCardSaid : Prop := Claim7.holds Tryz.pinned (.plain (OpenSpec.ofChange fnAgainTxnMetadataValueSpec)) fnAgainTxnMetadataValueCard

/-- THE TIED CARD OF 'laws.FnCutVoteResponse'. -/
def fnCutVoteResponseCard : Claim7 := { stood := { row := fnCutVoteResponseRow, standIns := [], harness := (true, "8547c0898238e2b8c50fecd3423d0d2546eac896b7caca3b5faa8b66f4b51d7e"), looks := false }, kinds := [], alts := [], laidByText := true, laidKinds := [.sentinel], laidTests := true, laidLooks := .later }
def FnCutVoteResponseCardSaid : Prop := Claim7.holds Tryz.pinned (.plain (OpenSpec.ofChange fnCutVoteResponseSpec)) fnCutVoteResponseCard

/-- THE SECOND FORM's CARD OF 'laws.FnAgainTxnMetadataValue'. -/
def fnAgainTxnMetadataValueUptoCard : Claim7 := { stood := { row := fnAgainTxnMetadataValueUptoRow, standIns := [], harness := (true, "8547c0898238e2b8c50fecd3423d0d2546eac896b7caca3b5faa8b66f4b51d7e"), looks := false }, kinds := [], alts := [], laidByText := true, laidKinds := [.sentinel], laidTests := true, laidLooks := .later }
def FnAgainTxnMetadataValueUptoCardSaid : Prop := Claim7.holds Tryz.pinned (.plain (OpenSpec.upto fnAgainTxnMetadataValueSpec)) fnAgainTxnMetadataValueUptoCard

/-- THE SECOND FORM's CARD OF 'laws.FnCutVoteResponse'. -/
def fnCutVoteResponseUptoCard : Claim7 := { stood := { row := fnCutVoteResponseUptoRow, standIns := [], harness := (true, "8547c0898238e2b8c50fecd3423d0d2546eac896b7caca3b5faa8b66f4b51d7e"), looks := false }, kinds := [], alts := [], laidByText := true, laidKinds := [.sentinel], laidTests := true, laidLooks := .later }
def FnCutVoteResponseUptoCardSaid : Prop := Claim7.holds Tryz.pinned (.plain (OpenSpec.upto fnCutVoteResponseSpec)) fnCutVoteResponseUptoCard
end Rows
end Go.Proofs.YtmpilpgabelmiaaGreatDoor
