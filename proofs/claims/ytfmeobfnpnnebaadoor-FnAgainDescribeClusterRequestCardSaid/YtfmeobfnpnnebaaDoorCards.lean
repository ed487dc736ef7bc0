/-
  DERIVED. GIVEN WITH THE SEED: THE CARDS: each row of YtfmeobfnpnnebaaDoorRows.lean that lists a variable, with what it lists TIED to the program's text (the seventh form; the later family's looks); each row that meets fmt, with fmt's text TOLD by the authors' own Lean function (tested against real Go, not proved from fmt's source: count such statements apart). THE CARD IS WHAT COUNTS. Prove the row's statement (the work); the ties are given (YtfmeobfnpnnebaaDoorTie.lean); close each card by the builder's one call (the guide's Derived/Test/ToyasCard.lean, 'card_holds'). Laid BY PROGRAM, IN A SANDBOX (cutbox-door.mjs). By AI agents, Wed Nov 11 2026. No macro, syntax, notation, axiom, sorry.
-/
import Derived.Test.YtfmeobfnpnnebaaDoorRows
import GoSem.ClaimSeven
namespace Go.Proofs.YtfmeobfnpnnebaaDoor
namespace Rows

/-- THE TIED CARD OF 'laws.FnAgainUpdateMetadataResponse'. -/
def fnAgainUpdateMetadataResponseCard : Claim7 := { stood := { row := fnAgainUpdateMetadataResponseRow, standIns := [], harness := (true, "638e2c295c9b417068ab1ae82e7c07f2ea8880ff7d465ed3a5f07900c3e9be73"), looks := false }, kinds := [], alts := [], laidByText := true, laidKinds := [.sentinel], laidTests := true, laidLooks := .later }
def FnAgainUpdateMetadataResponseCardSaid : Prop := Claim7.holds Tryd.pinned (.plain (OpenSpec.ofChange fnAgainUpdateMetadataResponseSpec)) fnAgainUpdateMetadataResponseCard

/-- THE TIED CARD OF 'laws.FnAgainDescribeClusterRequest'. -/
def fnAgainDescribeClusterRequestCard : Claim7 := { stood := { row := fnAgainDescribeClusterRequestRow, standIns := [], harness := (true, "638e2c295c9b417068ab1ae82e7c07f2ea8880ff7d465ed3a5f07900c3e9be73"), looks := false }, kinds := [], alts := [], laidByText := true, laidKinds := [.sentinel], laidTests := true, laidLooks := .later }
def FnAgainDescribeClusterRequestCardSaid : Prop := Claim7.holds Tryd.pinned (.plain (OpenSpec.ofChange fnAgainDescribeClusterRequestSpec)) fnAgainDescribeClusterRequestCard

/-- THE TIED CARD OF 'laws.FnCutOffsetDeleteResponse'. -/
def fnCutOffsetDeleteResponseCard : Claim7 := { stood := { row := fnCutOffsetDeleteResponseRow, standIns := [], harness := (true, "638e2c295c9b417068ab1ae82e7c07f2ea8880ff7d465ed3a5f07900c3e9be73"), looks := false }, kinds := [], alts := [], laidByText := true, laidKinds := [.sentinel], laidTests := true, laidLooks := .later }
def FnCutOffsetDeleteResponseCardSaid : Prop := Claim7.holds Tryd.pinned (.plain (OpenSpec.ofChange fnCutOffsetDeleteResponseSpec)) fnCutOffsetDeleteResponseCard

/-- THE TIED CARD OF 'laws.FnCutBrokerHeartbeatResponse'. -/
def fnCutBrokerHeartbeatResponseCard : Claim7 := { stood := { row := fnCutBrokerHeartbeatResponseRow, standIns := [], harness := (true, "638e2c295c9b417068ab1ae82e7c07f2ea8880ff7d465ed3a5f07900c3e9be73"), looks := false }, kinds := [], alts := [], laidByText := true, laidKinds := [.sentinel], laidTests := true, laidLooks := .later }
def FnCutBrokerHeartbeatResponseCardSaid : Prop := Claim7.holds Tryd.pinned (.plain (OpenSpec.ofChange fnCutBrokerHeartbeatResponseSpec)) fnCutBrokerHeartbeatResponseCard

/-- THE TIED CARD OF 'laws.FnCutExpireDelegationTokenRequest'. -/
def fnCutExpireDelegationTokenRequestCard : Claim7 := { stood := { row := fnCutExpireDelegationTokenRequestRow, standIns := [], harness := (true, "638e2c295c9b417068ab1ae82e7c07f2ea8880ff7d465ed3a5f07900c3e9be73"), looks := false }, kinds := [], alts := [], laidByText := true, laidKinds := [.sentinel], laidTests := true, laidLooks := .later }
def FnCutExpireDelegationTokenRequestCardSaid : Prop := Claim7.holds Tryd.pinned (.plain (OpenSpec.ofChange fnCutExpireDelegationTokenRequestSpec)) fnCutExpireDelegationTokenRequestCard

/-- THE SECOND FORM's CARD OF 'laws.FnAgainUpdateMetadataResponse'. -/
def fnAgainUpdateMetadataResponseUptoCard : Claim7 := { stood := { row := fnAgainUpdateMetadataResponseUptoRow, standIns := [], harness := (true, "638e2c295c9b417068ab1ae82e7c07f2ea8880ff7d465ed3a5f07900c3e9be73"), looks := false }, kinds := [], alts := [], laidByText := true, laidKinds := [.sentinel], laidTests := true, laidLooks := .later }
def FnAgainUpdateMetadataResponseUptoCardSaid : Prop := Claim7.holds Tryd.pinned (.plain (OpenSpec.upto fnAgainUpdateMetadataResponseSpec)) fnAgainUpdateMetadataResponseUptoCard

/-- THE SECOND FORM's CARD OF 'laws.FnAgainDescribeClusterRequest'. -/
def fnAgainDescribeClusterRequestUptoCard : Claim7 := { stood := { row := fnAgainDescribeClusterRequestUptoRow, standIns := [], harness := (true, "638e2c295c9b417068ab1ae82e7c07f2ea8880ff7d465ed3a5f07900c3e9be73"), looks := false }, kinds := [], alts := [], laidByText := true, laidKinds := [.sentinel], laidTests := true, laidLooks := .later }
def FnAgainDescribeClusterRequestUptoCardSaid : Prop := Claim7.holds Tryd.pinned (.plain (OpenSpec.upto fnAgainDescribeClusterRequestSpec)) fnAgainDescribeClusterRequestUptoCard

/-- THE SECOND FORM's CARD OF 'laws.FnCutOffsetDeleteResponse'. -/
def fnCutOffsetDeleteResponseUptoCard : Claim7 := { stood := { row := fnCutOffsetDeleteResponseUptoRow, standIns := [], harness := (true, "638e2c295c9b417068ab1ae82e7c07f2ea8880ff7d465ed3a5f07900c3e9be73"), looks := false }, kinds := [], alts := [], laidByText := true, laidKinds := [.sentinel], laidTests := true, laidLooks := .later }
def FnCutOffsetDeleteResponseUptoCardSaid : Prop := Claim7.holds Tryd.pinned (.plain (OpenSpec.upto fnCutOffsetDeleteResponseSpec)) fnCutOffsetDeleteResponseUptoCard

/-- THE SECOND FORM's CARD OF 'laws.FnCutBrokerHeartbeatResponse'. -/
def fnCutBrokerHeartbeatResponseUptoCard : Claim7 := { stood := { row := fnCutBrokerHeartbeatResponseUptoRow, standIns := [], harness := (true, "638e2c295c9b417068ab1ae82e7c07f2ea8880ff7d465ed3a5f07900c3e9be73"), looks := false }, kinds := [], alts := [], laidByText := true, laidKinds := [.sentinel], laidTests := true, laidLooks := .later }
def FnCutBrokerHeartbeatResponseUptoCardSaid : Prop := Claim7.holds Tryd.pinned (.plain (OpenSpec.upto fnCutBrokerHeartbeatResponseSpec)) fnCutBrokerHeartbeatResponseUptoCard

/-- THE SECOND FORM's CARD OF 'laws.FnCutExpireDelegationTokenRequest'. -/
def fnCutExpireDelegationTokenRequestUptoCard : Claim7 := { stood := { row := fnCutExpireDelegationTokenRequestUptoRow, standIns := [], harness := (true, "638e2c295c9b417068ab1ae82e7c07f2ea8880ff7d465ed3a5f07900c3e9be73"), looks := false }, kinds := [], alts := [], laidByText := true, laidKinds := [.sentinel], laidTests := true, laidLooks := .later }
def FnCutExpireDelegationTokenRequestUptoCardSaid : Prop := Claim7.holds Tryd.pinned (.plain (OpenSpec.upto fnCutExpireDelegationTokenRequestSpec)) fnCutExpireDelegationTokenRequestUptoCard
end Rows
end Go.Proofs.YtfmeobfnpnnebaaDoor
