/-
  DERIVED. GIVEN WITH THE SEED: THE CARDS: each row of YtaihhpnfelobjaaDoorRRows.lean that lists a variable, with what it lists TIED to the program's text (the seventh form; the later family's looks); each row that meets fmt, with fmt's text TOLD by the authors' own Lean function (tested against real Go, not proved from fmt's source: count such statements apart). THE CARD IS WHAT COUNTS. Prove the row's statement (the work); the ties are given (YtaihhpnfelobjaaDoorRTie.lean); close each card by the builder's one call (the guide's Derived/Test/ToyasCard.lean, 'card_holds'). Laid BY PROGRAM, IN A SANDBOX (cutbox-door.mjs). By AI agents, Wed Nov 11 2026. No macro, syntax, notation, axiom, sorry.
-/
import Derived.Test.YtaihhpnfelobjaaDoorRRows
import GoSem.ClaimSeven
namespace Go.Proofs.YtaihhpnfelobjaaDoorR
namespace Rows

/-- THE TIED CARD OF 'laws.FnParseControlRecordKeyType'. -/
def fnParseControlRecordKeyTypeCard : Claim7 := { stood := { row := fnParseControlRecordKeyTypeRow, standIns := [], harness := (true, "de0f4694a345b7f474210b8172e057866c3c17415ccdcd78040349c1b1617c1e"), looks := false }, kinds := [], alts := [], laidByText := true, laidKinds := [.data, .listed, .data, .pinned, .pinned], laidTests := true, laidLooks := .later }
def FnParseControlRecordKeyTypeCardSaid : Prop := Claim7.holds Tryd.pinned (.plain (OpenSpec.ofChange fnParseControlRecordKeyTypeSpec)) fnParseControlRecordKeyTypeCard

/-- THE TIED CARD OF 'laws.FnConfigSourceText'. -/
def fnConfigSourceTextCard : Claim7 := { stood := { row := fnConfigSourceTextRow, standIns := [], harness := (true, "de0f4694a345b7f474210b8172e057866c3c17415ccdcd78040349c1b1617c1e"), looks := false }, kinds := [], alts := [], laidByText := true, laidKinds := [.data, .listed, .data, .pinned, .pinned], laidTests := true, laidLooks := .later }
def FnConfigSourceTextCardSaid : Prop := Claim7.holds Tryd.pinned (.plain (OpenSpec.ofChange fnConfigSourceTextSpec)) fnConfigSourceTextCard

/-- THE TIED CARD OF 'laws.FnAgainUpdateMetadataResponse'. -/
def fnAgainUpdateMetadataResponseCard : Claim7 := { stood := { row := fnAgainUpdateMetadataResponseRow, standIns := [], harness := (true, "de0f4694a345b7f474210b8172e057866c3c17415ccdcd78040349c1b1617c1e"), looks := false }, kinds := [], alts := [], laidByText := true, laidKinds := [.sentinel], laidTests := true, laidLooks := .later }
def FnAgainUpdateMetadataResponseCardSaid : Prop := Claim7.holds Tryd.pinned (.plain (OpenSpec.ofChange fnAgainUpdateMetadataResponseSpec)) fnAgainUpdateMetadataResponseCard

/-- THE TIED CARD OF 'laws.FnAgainDescribeClusterRequest'. -/
def fnAgainDescribeClusterRequestCard : Claim7 := { stood := { row := fnAgainDescribeClusterRequestRow, standIns := [], harness := (true, "de0f4694a345b7f474210b8172e057866c3c17415ccdcd78040349c1b1617c1e"), looks := false }, kinds := [], alts := [], laidByText := true, laidKinds := [.sentinel], laidTests := true, laidLooks := .later }
def FnAgainDescribeClusterRequestCardSaid : Prop := Claim7.holds Tryd.pinned (.plain (OpenSpec.ofChange fnAgainDescribeClusterRequestSpec)) fnAgainDescribeClusterRequestCard

/-- THE TIED CARD OF 'laws.FnAnySASLAuthenticateRequest'. -/
def fnAnySASLAuthenticateRequestCard : Claim7 := { stood := { row := fnAnySASLAuthenticateRequestRow, standIns := [], harness := (true, "de0f4694a345b7f474210b8172e057866c3c17415ccdcd78040349c1b1617c1e"), looks := false }, kinds := [], alts := [], laidByText := true, laidKinds := [.sentinel], laidTests := true, laidLooks := .later }
def FnAnySASLAuthenticateRequestCardSaid : Prop := Claim7.holds Tryd.pinned (.plain (OpenSpec.ofChange fnAnySASLAuthenticateRequestSpec)) fnAnySASLAuthenticateRequestCard

/-- THE TIED CARD OF 'laws.FnCutBrokerHeartbeatResponse'. -/
def fnCutBrokerHeartbeatResponseCard : Claim7 := { stood := { row := fnCutBrokerHeartbeatResponseRow, standIns := [], harness := (true, "de0f4694a345b7f474210b8172e057866c3c17415ccdcd78040349c1b1617c1e"), looks := false }, kinds := [], alts := [], laidByText := true, laidKinds := [.sentinel], laidTests := true, laidLooks := .later }
def FnCutBrokerHeartbeatResponseCardSaid : Prop := Claim7.holds Tryd.pinned (.plain (OpenSpec.ofChange fnCutBrokerHeartbeatResponseSpec)) fnCutBrokerHeartbeatResponseCard

/-- THE TIED CARD OF 'laws.FnAnyAllocateProducerIDsResponse'. -/
def fnAnyAllocateProducerIDsResponseCard : Claim7 := { stood := { row := fnAnyAllocateProducerIDsResponseRow, standIns := [], harness := (true, "de0f4694a345b7f474210b8172e057866c3c17415ccdcd78040349c1b1617c1e"), looks := false }, kinds := [], alts := [], laidByText := true, laidKinds := [.sentinel], laidTests := true, laidLooks := .later }
def FnAnyAllocateProducerIDsResponseCardSaid : Prop := Claim7.holds Tryd.pinned (.plain (OpenSpec.ofChange fnAnyAllocateProducerIDsResponseSpec)) fnAnyAllocateProducerIDsResponseCard

/-- THE TIED CARD OF 'laws.FnCutExpireDelegationTokenRequest'. -/
def fnCutExpireDelegationTokenRequestCard : Claim7 := { stood := { row := fnCutExpireDelegationTokenRequestRow, standIns := [], harness := (true, "de0f4694a345b7f474210b8172e057866c3c17415ccdcd78040349c1b1617c1e"), looks := false }, kinds := [], alts := [], laidByText := true, laidKinds := [.sentinel], laidTests := true, laidLooks := .later }
def FnCutExpireDelegationTokenRequestCardSaid : Prop := Claim7.holds Tryd.pinned (.plain (OpenSpec.ofChange fnCutExpireDelegationTokenRequestSpec)) fnCutExpireDelegationTokenRequestCard

/-- THE SECOND FORM's CARD OF 'laws.FnParseControlRecordKeyType'. -/
def fnParseControlRecordKeyTypeUptoCard : Claim7 := { stood := { row := fnParseControlRecordKeyTypeUptoRow, standIns := [], harness := (true, "de0f4694a345b7f474210b8172e057866c3c17415ccdcd78040349c1b1617c1e"), looks := false }, kinds := [], alts := [], laidByText := true, laidKinds := [.data, .listed, .data, .pinned, .pinned], laidTests := true, laidLooks := .later }
def FnParseControlRecordKeyTypeUptoCardSaid : Prop := Claim7.holds Tryd.pinned (.plain (OpenSpec.upto fnParseControlRecordKeyTypeSpec)) fnParseControlRecordKeyTypeUptoCard

/-- THE SECOND FORM's CARD OF 'laws.FnConfigSourceText'. -/
def fnConfigSourceTextUptoCard : Claim7 := { stood := { row := fnConfigSourceTextUptoRow, standIns := [], harness := (true, "de0f4694a345b7f474210b8172e057866c3c17415ccdcd78040349c1b1617c1e"), looks := false }, kinds := [], alts := [], laidByText := true, laidKinds := [.data, .listed, .data, .pinned, .pinned], laidTests := true, laidLooks := .later }
def FnConfigSourceTextUptoCardSaid : Prop := Claim7.holds Tryd.pinned (.plain (OpenSpec.upto fnConfigSourceTextSpec)) fnConfigSourceTextUptoCard

/-- THE SECOND FORM's CARD OF 'laws.FnAgainUpdateMetadataResponse'. -/
def fnAgainUpdateMetadataResponseUptoCard : Claim7 := { stood := { row := fnAgainUpdateMetadataResponseUptoRow, standIns := [], harness := (true, "de0f4694a345b7f474210b8172e057866c3c17415ccdcd78040349c1b1617c1e"), looks := false }, kinds := [], alts := [], laidByText := true, laidKinds := [.sentinel], laidTests := true, laidLooks := .later }
def FnAgainUpdateMetadataResponseUptoCardSaid : Prop := Claim7.holds Tryd.pinned (.plain (OpenSpec.upto fnAgainUpdateMetadataResponseSpec)) fnAgainUpdateMetadataResponseUptoCard

/-- THE SECOND FORM's CARD OF 'laws.FnAgainDescribeClusterRequest'. -/
def fnAgainDescribeClusterRequestUptoCard : Claim7 := { stood := { row := fnAgainDescribeClusterRequestUptoRow, standIns := [], harness := (true, "de0f4694a345b7f474210b8172e057866c3c17415ccdcd78040349c1b1617c1e"), looks := false }, kinds := [], alts := [], laidByText := true, laidKinds := [.sentinel], laidTests := true, laidLooks := .later }
def FnAgainDescribeClusterRequestUptoCardSaid : Prop := Claim7.holds Tryd.pinned (.plain (OpenSpec.upto fnAgainDescribeClusterRequestSpec)) fnAgainDescribeClusterRequestUptoCard

/-- THE SECOND FORM's CARD OF 'laws.FnAnySASLAuthenticateRequest'. -/
def fnAnySASLAuthenticateRequestUptoCard : Claim7 := { stood := { row := fnAnySASLAuthenticateRequestUptoRow, standIns := [], harness := (true, "de0f4694a345b7f474210b8172e057866c3c17415ccdcd78040349c1b1617c1e"), looks := false }, kinds := [], alts := [], laidByText := true, laidKinds := [.sentinel], laidTests := true, laidLooks := .later }
def FnAnySASLAuthenticateRequestUptoCardSaid : Prop := Claim7.holds Tryd.pinned (.plain (OpenSpec.upto fnAnySASLAuthenticateRequestSpec)) fnAnySASLAuthenticateRequestUptoCard

/-- THE SECOND FORM's CARD OF 'laws.FnCutBrokerHeartbeatResponse'. -/
def fnCutBrokerHeartbeatResponseUptoCard : Claim7 := { stood := { row := fnCutBrokerHeartbeatResponseUptoRow, standIns := [], harness := (true, "de0f4694a345b7f474210b8172e057866c3c17415ccdcd78040349c1b1617c1e"), looks := false }, kinds := [], alts := [], laidByText := true, laidKinds := [.sentinel], laidTests := true, laidLooks := .later }
def FnCutBrokerHeartbeatResponseUptoCardSaid : Prop := Claim7.holds Tryd.pinned (.plain (OpenSpec.upto fnCutBrokerHeartbeatResponseSpec)) fnCutBrokerHeartbeatResponseUptoCard

/-- THE SECOND FORM's CARD OF 'laws.FnAnyAllocateProducerIDsResponse'. -/
def fnAnyAllocateProducerIDsResponseUptoCard : Claim7 := { stood := { row := fnAnyAllocateProducerIDsResponseUptoRow, standIns := [], harness := (true, "de0f4694a345b7f474210b8172e057866c3c17415ccdcd78040349c1b1617c1e"), looks := false }, kinds := [], alts := [], laidByText := true, laidKinds := [.sentinel], laidTests := true, laidLooks := .later }
def FnAnyAllocateProducerIDsResponseUptoCardSaid : Prop := Claim7.holds Tryd.pinned (.plain (OpenSpec.upto fnAnyAllocateProducerIDsResponseSpec)) fnAnyAllocateProducerIDsResponseUptoCard

/-- THE SECOND FORM's CARD OF 'laws.FnCutExpireDelegationTokenRequest'. -/
def fnCutExpireDelegationTokenRequestUptoCard : Claim7 := { stood := { row := fnCutExpireDelegationTokenRequestUptoRow, standIns := [], harness := (true, "de0f4694a345b7f474210b8172e057866c3c17415ccdcd78040349c1b1617c1e"), looks := false }, kinds := [], alts := [], laidByText := true, laidKinds := [.sentinel], laidTests := true, laidLooks := .later }
def FnCutExpireDelegationTokenRequestUptoCardSaid : Prop := Claim7.holds Tryd.pinned (.plain (OpenSpec.upto fnCutExpireDelegationTokenRequestSpec)) fnCutExpireDelegationTokenRequestUptoCard
end Rows
end Go.Proofs.YtaihhpnfelobjaaDoorR
