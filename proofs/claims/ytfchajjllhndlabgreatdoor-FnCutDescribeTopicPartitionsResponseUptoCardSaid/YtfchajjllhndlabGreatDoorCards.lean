/-
  DERIVED. GIVEN WITH THE SEED: THE CARDS: each row of YtfchajjllhndlabGreatDoorRows.lean that lists a variable, with what it lists TIED to the program's text (the seventh form; the later family's looks); each row that meets fmt, with fmt's text TOLD by the authors' own Lean function (tested against real Go, not proved from fmt's source: count such statements apart). THE CARD IS WHAT COUNTS. Prove the row's statement (the work); the ties are given (YtfchajjllhndlabGreatDoorTie.lean); close each card by the builder's one call (the guide's Derived/Test/ToyasCard.lean, 'card_holds'). Laid BY PROGRAM, IN A SANDBOX (cutbox-door.mjs). By AI agents, Wed Nov 11 2026. No macro, syntax, notation, axiom, sorry.
-/
import Derived.Test.YtfchajjllhndlabGreatDoorRows
import GoSem.ClaimSeven
namespace Go.Proofs.YtfchajjllhndlabGreatDoor
namespace Rows

/-- THE TIED CARD OF 'laws.FnAgainAssignReplicasToDirsResponse'. -/
def fnAgainAssignReplicasToDirsResponseCard : Claim7 := { stood := { row := fnAgainAssignReplicasToDirsResponseRow, standIns := [], harness := (true, "16c05605b0f3037ec89e35a5f687d32983d07cc745564a2338c01f5b436ef90b"), looks := false }, kinds := [], alts := [], laidByText := true, laidKinds := [.sentinel], laidTests := true, laidLooks := .later }
def FnAgainAssignReplicasToDirsResponseCardSaid : Prop := Claim7.holds Tryz.pinned (.plain (OpenSpec.ofChange fnAgainAssignReplicasToDirsResponseSpec)) fnAgainAssignReplicasToDirsResponseCard

/-- THE TIED CARD OF 'laws.FnCutIncrementalAlterConfigsResponse'. -/
def fnCutIncrementalAlterConfigsResponseCard : Claim7 := { stood := { row := fnCutIncrementalAlterConfigsResponseRow, standIns := [], harness := (true, "16c05605b0f3037ec89e35a5f687d32983d07cc745564a2338c01f5b436ef90b"), looks := false }, kinds := [], alts := [], laidByText := true, laidKinds := [.sentinel], laidTests := true, laidLooks := .later }
def FnCutIncrementalAlterConfigsResponseCardSaid : Prop := Claim7.holds Tryz.pinned (.plain (OpenSpec.ofChange fnCutIncrementalAlterConfigsResponseSpec)) fnCutIncrementalAlterConfigsResponseCard

/-- THE TIED CARD OF 'laws.FnCutDeleteShareGroupOffsetsResponse'. -/
def fnCutDeleteShareGroupOffsetsResponseCard : Claim7 := { stood := { row := fnCutDeleteShareGroupOffsetsResponseRow, standIns := [], harness := (true, "16c05605b0f3037ec89e35a5f687d32983d07cc745564a2338c01f5b436ef90b"), looks := false }, kinds := [], alts := [], laidByText := true, laidKinds := [.sentinel], laidTests := true, laidLooks := .later }
def FnCutDeleteShareGroupOffsetsResponseCardSaid : Prop := Claim7.holds Tryz.pinned (.plain (OpenSpec.ofChange fnCutDeleteShareGroupOffsetsResponseSpec)) fnCutDeleteShareGroupOffsetsResponseCard

/-- THE TIED CARD OF 'laws.FnAgainAlterPartitionAssignmentsRequest'. -/
def fnAgainAlterPartitionAssignmentsRequestCard : Claim7 := { stood := { row := fnAgainAlterPartitionAssignmentsRequestRow, standIns := [], harness := (true, "16c05605b0f3037ec89e35a5f687d32983d07cc745564a2338c01f5b436ef90b"), looks := false }, kinds := [], alts := [], laidByText := true, laidKinds := [.sentinel], laidTests := true, laidLooks := .later }
def FnAgainAlterPartitionAssignmentsRequestCardSaid : Prop := Claim7.holds Tryz.pinned (.plain (OpenSpec.ofChange fnAgainAlterPartitionAssignmentsRequestSpec)) fnAgainAlterPartitionAssignmentsRequestCard

/-- THE TIED CARD OF 'laws.FnAgainControllerRegistrationRequest'. -/
def fnAgainControllerRegistrationRequestCard : Claim7 := { stood := { row := fnAgainControllerRegistrationRequestRow, standIns := [], harness := (true, "16c05605b0f3037ec89e35a5f687d32983d07cc745564a2338c01f5b436ef90b"), looks := false }, kinds := [], alts := [], laidByText := true, laidKinds := [.sentinel], laidTests := true, laidLooks := .later }
def FnAgainControllerRegistrationRequestCardSaid : Prop := Claim7.holds Tryz.pinned (.plain (OpenSpec.ofChange fnAgainControllerRegistrationRequestSpec)) fnAgainControllerRegistrationRequestCard

/-- THE TIED CARD OF 'laws.FnCutAddPartitionsToTxnResponse'. -/
def fnCutAddPartitionsToTxnResponseCard : Claim7 := { stood := { row := fnCutAddPartitionsToTxnResponseRow, standIns := [], harness := (true, "16c05605b0f3037ec89e35a5f687d32983d07cc745564a2338c01f5b436ef90b"), looks := false }, kinds := [], alts := [], laidByText := true, laidKinds := [.sentinel], laidTests := true, laidLooks := .later }
def FnCutAddPartitionsToTxnResponseCardSaid : Prop := Claim7.holds Tryz.pinned (.plain (OpenSpec.ofChange fnCutAddPartitionsToTxnResponseSpec)) fnCutAddPartitionsToTxnResponseCard

/-- THE TIED CARD OF 'laws.FnCutTxnOffsetCommitRequest'. -/
def fnCutTxnOffsetCommitRequestCard : Claim7 := { stood := { row := fnCutTxnOffsetCommitRequestRow, standIns := [], harness := (true, "16c05605b0f3037ec89e35a5f687d32983d07cc745564a2338c01f5b436ef90b"), looks := false }, kinds := [], alts := [], laidByText := true, laidKinds := [.sentinel], laidTests := true, laidLooks := .later }
def FnCutTxnOffsetCommitRequestCardSaid : Prop := Claim7.holds Tryz.pinned (.plain (OpenSpec.ofChange fnCutTxnOffsetCommitRequestSpec)) fnCutTxnOffsetCommitRequestCard

/-- THE TIED CARD OF 'laws.FnAgainShareAcknowledgeResponse'. -/
def fnAgainShareAcknowledgeResponseCard : Claim7 := { stood := { row := fnAgainShareAcknowledgeResponseRow, standIns := [], harness := (true, "16c05605b0f3037ec89e35a5f687d32983d07cc745564a2338c01f5b436ef90b"), looks := false }, kinds := [], alts := [], laidByText := true, laidKinds := [.sentinel], laidTests := true, laidLooks := .later }
def FnAgainShareAcknowledgeResponseCardSaid : Prop := Claim7.holds Tryz.pinned (.plain (OpenSpec.ofChange fnAgainShareAcknowledgeResponseSpec)) fnAgainShareAcknowledgeResponseCard

/-- THE TIED CARD OF 'laws.FnCutDescribeTopicPartitionsResponse'. -/
def fnCutDescribeTopicPartitionsResponseCard : Claim7 := { stood := { row := fnCutDescribeTopicPartitionsResponseRow, standIns := [], harness := (true, "16c05605b0f3037ec89e35a5f687d32983d07cc745564a2338c01f5b436ef90b"), looks := false }, kinds := [], alts := [], laidByText := true, laidKinds := [.sentinel], laidTests := true, laidLooks := .later }
def FnCutDescribeTopicPartitionsResponseCardSaid : Prop := Claim7.holds Tryz.pinned (.plain (OpenSpec.ofChange fnCutDescribeTopicPartitionsResponseSpec)) fnCutDescribeTopicPartitionsResponseCard

/-- THE TIED CARD OF 'laws.FnAgainMetadataResponse'. -/
def fnAgainMetadataResponseCard : Claim7 := { stood := { row := fnAgainMetadataResponseRow, standIns := [], harness := (true, "16c05605b0f3037ec89e35a5f687d32983d07cc745564a2338c01f5b436ef90b"), looks := false }, kinds := [], alts := [], laidByText := true, laidKinds := [.sentinel], laidTests := true, laidLooks := .later }
def FnAgainMetadataResponseCardSaid : Prop := Claim7.holds Tryz.pinned (.plain (OpenSpec.ofChange fnAgainMetadataResponseSpec)) fnAgainMetadataResponseCard

/-- THE TIED CARD OF 'laws.FnCutShareGroupDescribeResponse'. -/
def fnCutShareGroupDescribeResponseCard : Claim7 := { stood := { row := fnCutShareGroupDescribeResponseRow, standIns := [], harness := (true, "16c05605b0f3037ec89e35a5f687d32983d07cc745564a2338c01f5b436ef90b"), looks := false }, kinds := [], alts := [], laidByText := true, laidKinds := [.sentinel], laidTests := true, laidLooks := .later }
def FnCutShareGroupDescribeResponseCardSaid : Prop := Claim7.holds Tryz.pinned (.plain (OpenSpec.ofChange fnCutShareGroupDescribeResponseSpec)) fnCutShareGroupDescribeResponseCard

/-- THE TIED CARD OF 'laws.FnAgainDescribeQuorumResponse'. -/
def fnAgainDescribeQuorumResponseCard : Claim7 := { stood := { row := fnAgainDescribeQuorumResponseRow, standIns := [], harness := (true, "16c05605b0f3037ec89e35a5f687d32983d07cc745564a2338c01f5b436ef90b"), looks := false }, kinds := [], alts := [], laidByText := true, laidKinds := [.sentinel], laidTests := true, laidLooks := .later }
def FnAgainDescribeQuorumResponseCardSaid : Prop := Claim7.holds Tryz.pinned (.plain (OpenSpec.ofChange fnAgainDescribeQuorumResponseSpec)) fnAgainDescribeQuorumResponseCard

/-- THE SECOND FORM's CARD OF 'laws.FnAgainAssignReplicasToDirsResponse'. -/
def fnAgainAssignReplicasToDirsResponseUptoCard : Claim7 := { stood := { row := fnAgainAssignReplicasToDirsResponseUptoRow, standIns := [], harness := (true, "16c05605b0f3037ec89e35a5f687d32983d07cc745564a2338c01f5b436ef90b"), looks := false }, kinds := [], alts := [], laidByText := true, laidKinds := [.sentinel], laidTests := true, laidLooks := .later }
def FnAgainAssignReplicasToDirsResponseUptoCardSaid : Prop := Claim7.holds Tryz.pinned (.plain (OpenSpec.upto fnAgainAssignReplicasToDirsResponseSpec)) fnAgainAssignReplicasToDirsResponseUptoCard

/-- THE SECOND FORM's CARD OF 'laws.FnCutIncrementalAlterConfigsResponse'. -/
def fnCutIncrementalAlterConfigsResponseUptoCard : Claim7 := { stood := { row := fnCutIncrementalAlterConfigsResponseUptoRow, standIns := [], harness := (true, "16c05605b0f3037ec89e35a5f687d32983d07cc745564a2338c01f5b436ef90b"), looks := false }, kinds := [], alts := [], laidByText := true, laidKinds := [.sentinel], laidTests := true, laidLooks := .later }
def FnCutIncrementalAlterConfigsResponseUptoCardSaid : Prop := Claim7.holds Tryz.pinned (.plain (OpenSpec.upto fnCutIncrementalAlterConfigsResponseSpec)) fnCutIncrementalAlterConfigsResponseUptoCard

/-- THE SECOND FORM's CARD OF 'laws.FnCutDeleteShareGroupOffsetsResponse'. -/
def fnCutDeleteShareGroupOffsetsResponseUptoCard : Claim7 := { stood := { row := fnCutDeleteShareGroupOffsetsResponseUptoRow, standIns := [], harness := (true, "16c05605b0f3037ec89e35a5f687d32983d07cc745564a2338c01f5b436ef90b"), looks := false }, kinds := [], alts := [], laidByText := true, laidKinds := [.sentinel], laidTests := true, laidLooks := .later }
def FnCutDeleteShareGroupOffsetsResponseUptoCardSaid : Prop := Claim7.holds Tryz.pinned (.plain (OpenSpec.upto fnCutDeleteShareGroupOffsetsResponseSpec)) fnCutDeleteShareGroupOffsetsResponseUptoCard

/-- THE SECOND FORM's CARD OF 'laws.FnAgainAlterPartitionAssignmentsRequest'. -/
def fnAgainAlterPartitionAssignmentsRequestUptoCard : Claim7 := { stood := { row := fnAgainAlterPartitionAssignmentsRequestUptoRow, standIns := [], harness := (true, "16c05605b0f3037ec89e35a5f687d32983d07cc745564a2338c01f5b436ef90b"), looks := false }, kinds := [], alts := [], laidByText := true, laidKinds := [.sentinel], laidTests := true, laidLooks := .later }
def FnAgainAlterPartitionAssignmentsRequestUptoCardSaid : Prop := Claim7.holds Tryz.pinned (.plain (OpenSpec.upto fnAgainAlterPartitionAssignmentsRequestSpec)) fnAgainAlterPartitionAssignmentsRequestUptoCard

/-- THE SECOND FORM's CARD OF 'laws.FnAgainControllerRegistrationRequest'. -/
def fnAgainControllerRegistrationRequestUptoCard : Claim7 := { stood := { row := fnAgainControllerRegistrationRequestUptoRow, standIns := [], harness := (true, "16c05605b0f3037ec89e35a5f687d32983d07cc745564a2338c01f5b436ef90b"), looks := false }, kinds := [], alts := [], laidByText := true, laidKinds := [.sentinel], laidTests := true, laidLooks := .later }
def FnAgainControllerRegistrationRequestUptoCardSaid : Prop := Claim7.holds Tryz.pinned (.plain (OpenSpec.upto fnAgainControllerRegistrationRequestSpec)) fnAgainControllerRegistrationRequestUptoCard

/-- THE SECOND FORM's CARD OF 'laws.FnCutAddPartitionsToTxnResponse'. -/
def fnCutAddPartitionsToTxnResponseUptoCard : Claim7 := { stood := { row := fnCutAddPartitionsToTxnResponseUptoRow, standIns := [], harness := (true, "16c05605b0f3037ec89e35a5f687d32983d07cc745564a2338c01f5b436ef90b"), looks := false }, kinds := [], alts := [], laidByText := true, laidKinds := [.sentinel], laidTests := true, laidLooks := .later }
def FnCutAddPartitionsToTxnResponseUptoCardSaid : Prop := Claim7.holds Tryz.pinned (.plain (OpenSpec.upto fnCutAddPartitionsToTxnResponseSpec)) fnCutAddPartitionsToTxnResponseUptoCard

/-- THE SECOND FORM's CARD OF 'laws.FnCutTxnOffsetCommitRequest'. -/
def fnCutTxnOffsetCommitRequestUptoCard : Claim7 := { stood := { row := fnCutTxnOffsetCommitRequestUptoRow, standIns := [], harness := (true, "16c05605b0f3037ec89e35a5f687d32983d07cc745564a2338c01f5b436ef90b"), looks := false }, kinds := [], alts := [], laidByText := true, laidKinds := [.sentinel], laidTests := true, laidLooks := .later }
def FnCutTxnOffsetCommitRequestUptoCardSaid : Prop := Claim7.holds Tryz.pinned (.plain (OpenSpec.upto fnCutTxnOffsetCommitRequestSpec)) fnCutTxnOffsetCommitRequestUptoCard

/-- THE SECOND FORM's CARD OF 'laws.FnAgainShareAcknowledgeResponse'. -/
def fnAgainShareAcknowledgeResponseUptoCard : Claim7 := { stood := { row := fnAgainShareAcknowledgeResponseUptoRow, standIns := [], harness := (true, "16c05605b0f3037ec89e35a5f687d32983d07cc745564a2338c01f5b436ef90b"), looks := false }, kinds := [], alts := [], laidByText := true, laidKinds := [.sentinel], laidTests := true, laidLooks := .later }
def FnAgainShareAcknowledgeResponseUptoCardSaid : Prop := Claim7.holds Tryz.pinned (.plain (OpenSpec.upto fnAgainShareAcknowledgeResponseSpec)) fnAgainShareAcknowledgeResponseUptoCard

/-- THE SECOND FORM's CARD OF 'laws.FnCutDescribeTopicPartitionsResponse'. -/
def fnCutDescribeTopicPartitionsResponseUptoCard : Claim7 := { stood := { row := fnCutDescribeTopicPartitionsResponseUptoRow, standIns := [], harness := (true, "16c05605b0f3037ec89e35a5f687d32983d07cc745564a2338c01f5b436ef90b"), looks := false }, kinds := [], alts := [], laidByText := true, laidKinds := [.sentinel], laidTests := true, laidLooks := .later }
def FnCutDescribeTopicPartitionsResponseUptoCardSaid : Prop := Claim7.holds Tryz.pinned (.plain (OpenSpec.upto fnCutDescribeTopicPartitionsResponseSpec)) fnCutDescribeTopicPartitionsResponseUptoCard

/-- THE SECOND FORM's CARD OF 'laws.FnAgainMetadataResponse'. -/
def fnAgainMetadataResponseUptoCard : Claim7 := { stood := { row := fnAgainMetadataResponseUptoRow, standIns := [], harness := (true, "16c05605b0f3037ec89e35a5f687d32983d07cc745564a2338c01f5b436ef90b"), looks := false }, kinds := [], alts := [], laidByText := true, laidKinds := [.sentinel], laidTests := true, laidLooks := .later }
def FnAgainMetadataResponseUptoCardSaid : Prop := Claim7.holds Tryz.pinned (.plain (OpenSpec.upto fnAgainMetadataResponseSpec)) fnAgainMetadataResponseUptoCard

/-- THE SECOND FORM's CARD OF 'laws.FnCutShareGroupDescribeResponse'. -/
def fnCutShareGroupDescribeResponseUptoCard : Claim7 := { stood := { row := fnCutShareGroupDescribeResponseUptoRow, standIns := [], harness := (true, "16c05605b0f3037ec89e35a5f687d32983d07cc745564a2338c01f5b436ef90b"), looks := false }, kinds := [], alts := [], laidByText := true, laidKinds := [.sentinel], laidTests := true, laidLooks := .later }
def FnCutShareGroupDescribeResponseUptoCardSaid : Prop := Claim7.holds Tryz.pinned (.plain (OpenSpec.upto fnCutShareGroupDescribeResponseSpec)) fnCutShareGroupDescribeResponseUptoCard

/-- THE SECOND FORM's CARD OF 'laws.FnAgainDescribeQuorumResponse'. -/
def fnAgainDescribeQuorumResponseUptoCard : Claim7 := { stood := { row := fnAgainDescribeQuorumResponseUptoRow, standIns := [], harness := (true, "16c05605b0f3037ec89e35a5f687d32983d07cc745564a2338c01f5b436ef90b"), looks := false }, kinds := [], alts := [], laidByText := true, laidKinds := [.sentinel], laidTests := true, laidLooks := .later }
def FnAgainDescribeQuorumResponseUptoCardSaid : Prop := Claim7.holds Tryz.pinned (.plain (OpenSpec.upto fnAgainDescribeQuorumResponseSpec)) fnAgainDescribeQuorumResponseUptoCard
end Rows
end Go.Proofs.YtfchajjllhndlabGreatDoor
