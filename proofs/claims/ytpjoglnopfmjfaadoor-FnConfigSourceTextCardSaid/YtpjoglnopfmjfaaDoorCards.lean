/-
  DERIVED. GIVEN WITH THE SEED: THE CARDS: each row of YtpjoglnopfmjfaaDoorRows.lean that lists a variable, with what it lists TIED to the program's text (the seventh form; the later family's looks); each row that meets fmt, with fmt's text TOLD by the authors' own Lean function (tested against real Go, not proved from fmt's source: count such statements apart). THE CARD IS WHAT COUNTS. Prove the row's statement (the work); the ties are given (YtpjoglnopfmjfaaDoorTie.lean); close each card by the builder's one call (the guide's Derived/Test/ToyasCard.lean, 'card_holds'). Laid BY PROGRAM, IN A SANDBOX (cutbox-door.mjs). By AI agents, Wed Nov 11 2026. No macro, syntax, notation, axiom, sorry.
-/
import Derived.Test.YtpjoglnopfmjfaaDoorRows
import GoSem.ClaimSeven
namespace Go.Proofs.YtpjoglnopfmjfaaDoor
namespace Rows

/-- THE TIED CARD OF 'laws.FnParseControlRecordKeyType'. -/
def fnParseControlRecordKeyTypeCard : Claim7 := { stood := { row := fnParseControlRecordKeyTypeRow, standIns := [], harness := (true, "e30058153cd0acd57351585585d9cca72a551a6abc9cb21a876659da1db48d49"), looks := false }, kinds := [], alts := [], laidByText := true, laidKinds := [.data, .listed, .data, .pinned, .pinned], laidTests := true, laidLooks := .later }
def FnParseControlRecordKeyTypeCardSaid : Prop := Claim7.holds Tryd.pinned (.plain (OpenSpec.ofChange fnParseControlRecordKeyTypeSpec)) fnParseControlRecordKeyTypeCard

/-- THE TIED CARD OF 'laws.FnConfigSourceText'. -/
def fnConfigSourceTextCard : Claim7 := { stood := { row := fnConfigSourceTextRow, standIns := [], harness := (true, "e30058153cd0acd57351585585d9cca72a551a6abc9cb21a876659da1db48d49"), looks := false }, kinds := [], alts := [], laidByText := true, laidKinds := [.data, .listed, .data, .pinned, .pinned], laidTests := true, laidLooks := .later }
def FnConfigSourceTextCardSaid : Prop := Claim7.holds Tryd.pinned (.plain (OpenSpec.ofChange fnConfigSourceTextSpec)) fnConfigSourceTextCard

/-- THE SECOND FORM's CARD OF 'laws.FnParseControlRecordKeyType'. -/
def fnParseControlRecordKeyTypeUptoCard : Claim7 := { stood := { row := fnParseControlRecordKeyTypeUptoRow, standIns := [], harness := (true, "e30058153cd0acd57351585585d9cca72a551a6abc9cb21a876659da1db48d49"), looks := false }, kinds := [], alts := [], laidByText := true, laidKinds := [.data, .listed, .data, .pinned, .pinned], laidTests := true, laidLooks := .later }
def FnParseControlRecordKeyTypeUptoCardSaid : Prop := Claim7.holds Tryd.pinned (.plain (OpenSpec.upto fnParseControlRecordKeyTypeSpec)) fnParseControlRecordKeyTypeUptoCard

/-- THE SECOND FORM's CARD OF 'laws.FnConfigSourceText'. -/
def fnConfigSourceTextUptoCard : Claim7 := { stood := { row := fnConfigSourceTextUptoRow, standIns := [], harness := (true, "e30058153cd0acd57351585585d9cca72a551a6abc9cb21a876659da1db48d49"), looks := false }, kinds := [], alts := [], laidByText := true, laidKinds := [.data, .listed, .data, .pinned, .pinned], laidTests := true, laidLooks := .later }
def FnConfigSourceTextUptoCardSaid : Prop := Claim7.holds Tryd.pinned (.plain (OpenSpec.upto fnConfigSourceTextSpec)) fnConfigSourceTextUptoCard
end Rows
end Go.Proofs.YtpjoglnopfmjfaaDoor
