/-
  DERIVED. GIVEN WITH THE SEED: THE CARDS: each row of YtkhpglongkhbjaaGreatDoorRRows.lean that lists a variable, with what it lists TIED to the program's text (the seventh form; the later family's looks); each row that meets fmt, with fmt's text TOLD by the authors' own Lean function (tested against real Go, not proved from fmt's source: count such statements apart). THE CARD IS WHAT COUNTS. Prove the row's statement (the work); the ties are given (YtkhpglongkhbjaaGreatDoorRTie.lean); close each card by the builder's one call (the guide's Derived/Test/ToyasCard.lean, 'card_holds'). Laid BY PROGRAM, IN A SANDBOX (cutbox-door.mjs). By AI agents, Wed Nov 11 2026. No macro, syntax, notation, axiom, sorry.
-/
import Derived.Test.YtkhpglongkhbjaaGreatDoorRRows
import GoSem.ClaimSeven
namespace Go.Proofs.YtkhpglongkhbjaaGreatDoorR
namespace Rows

/-- THE TIED CARD OF 'laws.FnAnyGroupMetadataValue'. -/
def fnAnyGroupMetadataValueCard : Claim7 := { stood := { row := fnAnyGroupMetadataValueRow, standIns := [], harness := (true, "0cdc6815f24f0ff408b4fee89014d3cd28602fc32032aad011092bdb4671c49e"), looks := false }, kinds := [], alts := [], laidByText := true, laidKinds := [.sentinel], laidTests := true, laidLooks := .later }
def FnAnyGroupMetadataValueCardSaid : Prop := Claim7.holds Tryz.pinned (.plain (OpenSpec.ofChange fnAnyGroupMetadataValueSpec)) fnAnyGroupMetadataValueCard

/-- THE SECOND FORM's CARD OF 'laws.FnAnyGroupMetadataValue'. -/
def fnAnyGroupMetadataValueUptoCard : Claim7 := { stood := { row := fnAnyGroupMetadataValueUptoRow, standIns := [], harness := (true, "0cdc6815f24f0ff408b4fee89014d3cd28602fc32032aad011092bdb4671c49e"), looks := false }, kinds := [], alts := [], laidByText := true, laidKinds := [.sentinel], laidTests := true, laidLooks := .later }
def FnAnyGroupMetadataValueUptoCardSaid : Prop := Claim7.holds Tryz.pinned (.plain (OpenSpec.upto fnAnyGroupMetadataValueSpec)) fnAnyGroupMetadataValueUptoCard
end Rows
end Go.Proofs.YtkhpglongkhbjaaGreatDoorR
