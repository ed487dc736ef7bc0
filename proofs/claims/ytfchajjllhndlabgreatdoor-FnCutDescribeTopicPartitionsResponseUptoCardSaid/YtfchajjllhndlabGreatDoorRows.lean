/-
  NARROWER THAN 'FOR EVERY INPUT', by the rows' own cells (each row's printed sentence says how): FnAgainAssignReplicasToDirsResponse: loops, laid · FnCutIncrementalAlterConfigsResponse: loops, laid · FnCutDeleteShareGroupOffsetsResponse: loops, laid · FnAgainAlterPartitionAssignmentsRequest: loops, laid · FnAgainControllerRegistrationRequest: loops, laid · FnCutAddPartitionsToTxnResponse: loops, laid · FnCutTxnOffsetCommitRequest: loops, laid · FnAgainShareAcknowledgeResponse: loops, laid · FnCutDescribeTopicPartitionsResponse: loops, laid · FnAgainMetadataResponse: loops, laid · FnCutShareGroupDescribeResponse: loops, laid · FnAgainDescribeQuorumResponse: loops, laid.
  DERIVED. THE GIVEN ROWS OF THIS SEAT. 12 by the template 'for every input the law returns true; each argument reads behind the call as it read before'; 0 by the template 'total and deterministic' (their statements: YtfchajjllhndlabGreatDoorTotals.lean).
  GIVEN WITH THE SEED: the statements are not yours to turn. If you find one false, say at which input.
  Laid BY PROGRAM, IN A SANDBOX (cutbox-rows.mjs): the forced cells as the released guide's own fill.sh prints them over the translation 0117c8123acf975e… (all of the seat's roots in one cut). By AI agents, Wed Nov 11 2026. No macro, syntax, notation, axiom, sorry.
-/
import Derived.Test.YtfchajjllhndlabGreatDoorChecked
import GoSem.Claim
import GoSem.ClaimJoined
import GoSem.ClaimMapViews
import Derived.JoinedTies
import Derived.KernelRfl
namespace Go.Proofs.YtfchajjllhndlabGreatDoor
/- THE CELL 'sum', in the pinned program and in every row, IS THE sha256 OF THE DUMP (.gsa) THAT YtfchajjllhndlabGreatDoorProg.lean LOADS. Nothing in Lean hashes anything: it is a label: what it is worth is what the hold of that sum in a sandbox is worth. -/
noncomputable def Tryz.pinned : Pinned := { name := "ytfchajjllhndlabgreatdoor", sum := "0117c8123acf975e6527e0e189d8603a26e15407affbed7f949718d6b53ab7a0", checked := Tryz.checked }
namespace Rows
def none {H : Type} : Left H := { results := [], args := [] }

/- WHAT THE LISTED PACKAGE-LEVEL VARIABLES READ AS WHEN THE CALL BEGINS. Each datum BY PROGRAM (the guide's laid-datum.mjs) off the statement by which the dump's own 'gosem.cut.vars' lays the variable. In a bare row this is a premise. The card (YtfchajjllhndlabGreatDoorCards.lean) ties it to the program's text. -/
def laid_pub_kmsg_pub_kmsg_inner_kbin_ErrNotEnoughData {H : Type} : DataW H := .iface "*errors.errorString" (.ptr (.agg [.lit (.string [114, 101, 115, 112, 111, 110, 115, 101, 32, 100, 105, 100, 32, 110, 111, 116, 32, 99, 111, 110, 116, 97, 105, 110, 32, 101, 110, 111, 117, 103, 104, 32, 100, 97, 116, 97, 32, 116, 111, 32, 98, 101, 32, 118, 97, 108, 105, 100])]))

/-- 'laws.FnAgainAssignReplicasToDirsResponse': WHATEVER THE INPUT: true; the input reads as it did. -/
def fnAgainAssignReplicasToDirsResponseSpec : ChangeSpec := { name := "fnAgainAssignReplicasToDirsResponse", fn := fun _ => fun
  | [d1, d2] => { results := [.lit (.bool true)], args := [d1, d2] }
  | _ => none }
def fnAgainAssignReplicasToDirsResponseRow : OpenClaim := { program := "ytfchajjllhndlabgreatdoor", sum := "0117c8123acf975e6527e0e189d8603a26e15407affbed7f949718d6b53ab7a0", func := "pub-kmsg/laws.FnAgainAssignReplicasToDirsResponse", spec := "fnAgainAssignReplicasToDirsResponse", inPlace := ["internal/reflectlite.ValueOf", "internal/reflectlite.Swapper", "(internal/reflectlite.Value).Len"], unfollowed := true, recurses := true, named := ["encoding/binary.BigEndian", "pub-kmsg/pub/kmsg/inner/kbin.ErrNotEnoughData"], loops := true, apart := false, laid := [("pub-kmsg/pub/kmsg/inner/kbin.ErrNotEnoughData", laid_pub_kmsg_pub_kmsg_inner_kbin_ErrNotEnoughData)] }
def FnAgainAssignReplicasToDirsResponseSaid : Prop := fnAgainAssignReplicasToDirsResponseRow.holds Tryz.pinned (OpenSpec.ofChange fnAgainAssignReplicasToDirsResponseSpec)

/-- ITS FALSE NEIGHBOUR: 'it returns false'. Refute it at one input. -/
def fnAgainAssignReplicasToDirsResponseWrong : ChangeSpec := { name := "fnAgainAssignReplicasToDirsResponse", fn := fun _ => fun
  | [d1, d2] => { results := [.lit (.bool false)], args := [d1, d2] }
  | _ => none }
def FnAgainAssignReplicasToDirsResponseWrongFalsely : Prop := fnAgainAssignReplicasToDirsResponseRow.holds Tryz.pinned (OpenSpec.ofChange fnAgainAssignReplicasToDirsResponseWrong)

/-- 'laws.FnCutIncrementalAlterConfigsResponse': WHATEVER THE INPUT: true; the input reads as it did. -/
def fnCutIncrementalAlterConfigsResponseSpec : ChangeSpec := { name := "fnCutIncrementalAlterConfigsResponse", fn := fun _ => fun
  | [d1, d2, d3] => { results := [.lit (.bool true)], args := [d1, d2, d3] }
  | _ => none }
def fnCutIncrementalAlterConfigsResponseRow : OpenClaim := { program := "ytfchajjllhndlabgreatdoor", sum := "0117c8123acf975e6527e0e189d8603a26e15407affbed7f949718d6b53ab7a0", func := "pub-kmsg/laws.FnCutIncrementalAlterConfigsResponse", spec := "fnCutIncrementalAlterConfigsResponse", inPlace := ["internal/reflectlite.ValueOf", "internal/reflectlite.Swapper", "(internal/reflectlite.Value).Len"], unfollowed := true, recurses := true, named := ["encoding/binary.BigEndian", "pub-kmsg/pub/kmsg/inner/kbin.ErrNotEnoughData"], loops := true, apart := false, laid := [("pub-kmsg/pub/kmsg/inner/kbin.ErrNotEnoughData", laid_pub_kmsg_pub_kmsg_inner_kbin_ErrNotEnoughData)] }
def FnCutIncrementalAlterConfigsResponseSaid : Prop := fnCutIncrementalAlterConfigsResponseRow.holds Tryz.pinned (OpenSpec.ofChange fnCutIncrementalAlterConfigsResponseSpec)

/-- ITS FALSE NEIGHBOUR: 'it returns false'. Refute it at one input. -/
def fnCutIncrementalAlterConfigsResponseWrong : ChangeSpec := { name := "fnCutIncrementalAlterConfigsResponse", fn := fun _ => fun
  | [d1, d2, d3] => { results := [.lit (.bool false)], args := [d1, d2, d3] }
  | _ => none }
def FnCutIncrementalAlterConfigsResponseWrongFalsely : Prop := fnCutIncrementalAlterConfigsResponseRow.holds Tryz.pinned (OpenSpec.ofChange fnCutIncrementalAlterConfigsResponseWrong)

/-- 'laws.FnCutDeleteShareGroupOffsetsResponse': WHATEVER THE INPUT: true; the input reads as it did. -/
def fnCutDeleteShareGroupOffsetsResponseSpec : ChangeSpec := { name := "fnCutDeleteShareGroupOffsetsResponse", fn := fun _ => fun
  | [d1, d2, d3] => { results := [.lit (.bool true)], args := [d1, d2, d3] }
  | _ => none }
def fnCutDeleteShareGroupOffsetsResponseRow : OpenClaim := { program := "ytfchajjllhndlabgreatdoor", sum := "0117c8123acf975e6527e0e189d8603a26e15407affbed7f949718d6b53ab7a0", func := "pub-kmsg/laws.FnCutDeleteShareGroupOffsetsResponse", spec := "fnCutDeleteShareGroupOffsetsResponse", inPlace := ["internal/reflectlite.ValueOf", "internal/reflectlite.Swapper", "(internal/reflectlite.Value).Len"], unfollowed := true, recurses := true, named := ["encoding/binary.BigEndian", "pub-kmsg/pub/kmsg/inner/kbin.ErrNotEnoughData"], loops := true, apart := false, laid := [("pub-kmsg/pub/kmsg/inner/kbin.ErrNotEnoughData", laid_pub_kmsg_pub_kmsg_inner_kbin_ErrNotEnoughData)] }
def FnCutDeleteShareGroupOffsetsResponseSaid : Prop := fnCutDeleteShareGroupOffsetsResponseRow.holds Tryz.pinned (OpenSpec.ofChange fnCutDeleteShareGroupOffsetsResponseSpec)

/-- ITS FALSE NEIGHBOUR: 'it returns false'. Refute it at one input. -/
def fnCutDeleteShareGroupOffsetsResponseWrong : ChangeSpec := { name := "fnCutDeleteShareGroupOffsetsResponse", fn := fun _ => fun
  | [d1, d2, d3] => { results := [.lit (.bool false)], args := [d1, d2, d3] }
  | _ => none }
def FnCutDeleteShareGroupOffsetsResponseWrongFalsely : Prop := fnCutDeleteShareGroupOffsetsResponseRow.holds Tryz.pinned (OpenSpec.ofChange fnCutDeleteShareGroupOffsetsResponseWrong)

/-- 'laws.FnAgainAlterPartitionAssignmentsRequest': WHATEVER THE INPUT: true; the input reads as it did. -/
def fnAgainAlterPartitionAssignmentsRequestSpec : ChangeSpec := { name := "fnAgainAlterPartitionAssignmentsRequest", fn := fun _ => fun
  | [d1, d2] => { results := [.lit (.bool true)], args := [d1, d2] }
  | _ => none }
def fnAgainAlterPartitionAssignmentsRequestRow : OpenClaim := { program := "ytfchajjllhndlabgreatdoor", sum := "0117c8123acf975e6527e0e189d8603a26e15407affbed7f949718d6b53ab7a0", func := "pub-kmsg/laws.FnAgainAlterPartitionAssignmentsRequest", spec := "fnAgainAlterPartitionAssignmentsRequest", inPlace := ["internal/reflectlite.ValueOf", "internal/reflectlite.Swapper", "(internal/reflectlite.Value).Len"], unfollowed := true, recurses := true, named := ["encoding/binary.BigEndian", "pub-kmsg/pub/kmsg/inner/kbin.ErrNotEnoughData"], loops := true, apart := false, laid := [("pub-kmsg/pub/kmsg/inner/kbin.ErrNotEnoughData", laid_pub_kmsg_pub_kmsg_inner_kbin_ErrNotEnoughData)] }
def FnAgainAlterPartitionAssignmentsRequestSaid : Prop := fnAgainAlterPartitionAssignmentsRequestRow.holds Tryz.pinned (OpenSpec.ofChange fnAgainAlterPartitionAssignmentsRequestSpec)

/-- ITS FALSE NEIGHBOUR: 'it returns false'. Refute it at one input. -/
def fnAgainAlterPartitionAssignmentsRequestWrong : ChangeSpec := { name := "fnAgainAlterPartitionAssignmentsRequest", fn := fun _ => fun
  | [d1, d2] => { results := [.lit (.bool false)], args := [d1, d2] }
  | _ => none }
def FnAgainAlterPartitionAssignmentsRequestWrongFalsely : Prop := fnAgainAlterPartitionAssignmentsRequestRow.holds Tryz.pinned (OpenSpec.ofChange fnAgainAlterPartitionAssignmentsRequestWrong)

/-- 'laws.FnAgainControllerRegistrationRequest': WHATEVER THE INPUT: true; the input reads as it did. -/
def fnAgainControllerRegistrationRequestSpec : ChangeSpec := { name := "fnAgainControllerRegistrationRequest", fn := fun _ => fun
  | [d1, d2] => { results := [.lit (.bool true)], args := [d1, d2] }
  | _ => none }
def fnAgainControllerRegistrationRequestRow : OpenClaim := { program := "ytfchajjllhndlabgreatdoor", sum := "0117c8123acf975e6527e0e189d8603a26e15407affbed7f949718d6b53ab7a0", func := "pub-kmsg/laws.FnAgainControllerRegistrationRequest", spec := "fnAgainControllerRegistrationRequest", inPlace := ["internal/reflectlite.ValueOf", "internal/reflectlite.Swapper", "(internal/reflectlite.Value).Len"], unfollowed := true, recurses := true, named := ["encoding/binary.BigEndian", "pub-kmsg/pub/kmsg/inner/kbin.ErrNotEnoughData"], loops := true, apart := false, laid := [("pub-kmsg/pub/kmsg/inner/kbin.ErrNotEnoughData", laid_pub_kmsg_pub_kmsg_inner_kbin_ErrNotEnoughData)] }
def FnAgainControllerRegistrationRequestSaid : Prop := fnAgainControllerRegistrationRequestRow.holds Tryz.pinned (OpenSpec.ofChange fnAgainControllerRegistrationRequestSpec)

/-- ITS FALSE NEIGHBOUR: 'it returns false'. Refute it at one input. -/
def fnAgainControllerRegistrationRequestWrong : ChangeSpec := { name := "fnAgainControllerRegistrationRequest", fn := fun _ => fun
  | [d1, d2] => { results := [.lit (.bool false)], args := [d1, d2] }
  | _ => none }
def FnAgainControllerRegistrationRequestWrongFalsely : Prop := fnAgainControllerRegistrationRequestRow.holds Tryz.pinned (OpenSpec.ofChange fnAgainControllerRegistrationRequestWrong)

/-- 'laws.FnCutAddPartitionsToTxnResponse': WHATEVER THE INPUT: true; the input reads as it did. -/
def fnCutAddPartitionsToTxnResponseSpec : ChangeSpec := { name := "fnCutAddPartitionsToTxnResponse", fn := fun _ => fun
  | [d1, d2, d3] => { results := [.lit (.bool true)], args := [d1, d2, d3] }
  | _ => none }
def fnCutAddPartitionsToTxnResponseRow : OpenClaim := { program := "ytfchajjllhndlabgreatdoor", sum := "0117c8123acf975e6527e0e189d8603a26e15407affbed7f949718d6b53ab7a0", func := "pub-kmsg/laws.FnCutAddPartitionsToTxnResponse", spec := "fnCutAddPartitionsToTxnResponse", inPlace := ["internal/reflectlite.ValueOf", "internal/reflectlite.Swapper", "(internal/reflectlite.Value).Len"], unfollowed := true, recurses := true, named := ["encoding/binary.BigEndian", "pub-kmsg/pub/kmsg/inner/kbin.ErrNotEnoughData"], loops := true, apart := false, laid := [("pub-kmsg/pub/kmsg/inner/kbin.ErrNotEnoughData", laid_pub_kmsg_pub_kmsg_inner_kbin_ErrNotEnoughData)] }
def FnCutAddPartitionsToTxnResponseSaid : Prop := fnCutAddPartitionsToTxnResponseRow.holds Tryz.pinned (OpenSpec.ofChange fnCutAddPartitionsToTxnResponseSpec)

/-- ITS FALSE NEIGHBOUR: 'it returns false'. Refute it at one input. -/
def fnCutAddPartitionsToTxnResponseWrong : ChangeSpec := { name := "fnCutAddPartitionsToTxnResponse", fn := fun _ => fun
  | [d1, d2, d3] => { results := [.lit (.bool false)], args := [d1, d2, d3] }
  | _ => none }
def FnCutAddPartitionsToTxnResponseWrongFalsely : Prop := fnCutAddPartitionsToTxnResponseRow.holds Tryz.pinned (OpenSpec.ofChange fnCutAddPartitionsToTxnResponseWrong)

/-- 'laws.FnCutTxnOffsetCommitRequest': WHATEVER THE INPUT: true; the input reads as it did. -/
def fnCutTxnOffsetCommitRequestSpec : ChangeSpec := { name := "fnCutTxnOffsetCommitRequest", fn := fun _ => fun
  | [d1, d2, d3] => { results := [.lit (.bool true)], args := [d1, d2, d3] }
  | _ => none }
def fnCutTxnOffsetCommitRequestRow : OpenClaim := { program := "ytfchajjllhndlabgreatdoor", sum := "0117c8123acf975e6527e0e189d8603a26e15407affbed7f949718d6b53ab7a0", func := "pub-kmsg/laws.FnCutTxnOffsetCommitRequest", spec := "fnCutTxnOffsetCommitRequest", inPlace := ["internal/reflectlite.ValueOf", "internal/reflectlite.Swapper", "(internal/reflectlite.Value).Len"], unfollowed := true, recurses := true, named := ["encoding/binary.BigEndian", "pub-kmsg/pub/kmsg/inner/kbin.ErrNotEnoughData"], loops := true, apart := false, laid := [("pub-kmsg/pub/kmsg/inner/kbin.ErrNotEnoughData", laid_pub_kmsg_pub_kmsg_inner_kbin_ErrNotEnoughData)] }
def FnCutTxnOffsetCommitRequestSaid : Prop := fnCutTxnOffsetCommitRequestRow.holds Tryz.pinned (OpenSpec.ofChange fnCutTxnOffsetCommitRequestSpec)

/-- ITS FALSE NEIGHBOUR: 'it returns false'. Refute it at one input. -/
def fnCutTxnOffsetCommitRequestWrong : ChangeSpec := { name := "fnCutTxnOffsetCommitRequest", fn := fun _ => fun
  | [d1, d2, d3] => { results := [.lit (.bool false)], args := [d1, d2, d3] }
  | _ => none }
def FnCutTxnOffsetCommitRequestWrongFalsely : Prop := fnCutTxnOffsetCommitRequestRow.holds Tryz.pinned (OpenSpec.ofChange fnCutTxnOffsetCommitRequestWrong)

/-- 'laws.FnAgainShareAcknowledgeResponse': WHATEVER THE INPUT: true; the input reads as it did. -/
def fnAgainShareAcknowledgeResponseSpec : ChangeSpec := { name := "fnAgainShareAcknowledgeResponse", fn := fun _ => fun
  | [d1, d2] => { results := [.lit (.bool true)], args := [d1, d2] }
  | _ => none }
def fnAgainShareAcknowledgeResponseRow : OpenClaim := { program := "ytfchajjllhndlabgreatdoor", sum := "0117c8123acf975e6527e0e189d8603a26e15407affbed7f949718d6b53ab7a0", func := "pub-kmsg/laws.FnAgainShareAcknowledgeResponse", spec := "fnAgainShareAcknowledgeResponse", inPlace := ["internal/reflectlite.ValueOf", "internal/reflectlite.Swapper", "(internal/reflectlite.Value).Len"], unfollowed := true, recurses := true, named := ["encoding/binary.BigEndian", "pub-kmsg/pub/kmsg/inner/kbin.ErrNotEnoughData"], loops := true, apart := false, laid := [("pub-kmsg/pub/kmsg/inner/kbin.ErrNotEnoughData", laid_pub_kmsg_pub_kmsg_inner_kbin_ErrNotEnoughData)] }
def FnAgainShareAcknowledgeResponseSaid : Prop := fnAgainShareAcknowledgeResponseRow.holds Tryz.pinned (OpenSpec.ofChange fnAgainShareAcknowledgeResponseSpec)

/-- ITS FALSE NEIGHBOUR: 'it returns false'. Refute it at one input. -/
def fnAgainShareAcknowledgeResponseWrong : ChangeSpec := { name := "fnAgainShareAcknowledgeResponse", fn := fun _ => fun
  | [d1, d2] => { results := [.lit (.bool false)], args := [d1, d2] }
  | _ => none }
def FnAgainShareAcknowledgeResponseWrongFalsely : Prop := fnAgainShareAcknowledgeResponseRow.holds Tryz.pinned (OpenSpec.ofChange fnAgainShareAcknowledgeResponseWrong)

/-- 'laws.FnCutDescribeTopicPartitionsResponse': WHATEVER THE INPUT: true; the input reads as it did. -/
def fnCutDescribeTopicPartitionsResponseSpec : ChangeSpec := { name := "fnCutDescribeTopicPartitionsResponse", fn := fun _ => fun
  | [d1, d2, d3] => { results := [.lit (.bool true)], args := [d1, d2, d3] }
  | _ => none }
def fnCutDescribeTopicPartitionsResponseRow : OpenClaim := { program := "ytfchajjllhndlabgreatdoor", sum := "0117c8123acf975e6527e0e189d8603a26e15407affbed7f949718d6b53ab7a0", func := "pub-kmsg/laws.FnCutDescribeTopicPartitionsResponse", spec := "fnCutDescribeTopicPartitionsResponse", inPlace := ["internal/reflectlite.ValueOf", "internal/reflectlite.Swapper", "(internal/reflectlite.Value).Len"], unfollowed := true, recurses := true, named := ["encoding/binary.BigEndian", "pub-kmsg/pub/kmsg/inner/kbin.ErrNotEnoughData"], loops := true, apart := false, laid := [("pub-kmsg/pub/kmsg/inner/kbin.ErrNotEnoughData", laid_pub_kmsg_pub_kmsg_inner_kbin_ErrNotEnoughData)] }
def FnCutDescribeTopicPartitionsResponseSaid : Prop := fnCutDescribeTopicPartitionsResponseRow.holds Tryz.pinned (OpenSpec.ofChange fnCutDescribeTopicPartitionsResponseSpec)

/-- ITS FALSE NEIGHBOUR: 'it returns false'. Refute it at one input. -/
def fnCutDescribeTopicPartitionsResponseWrong : ChangeSpec := { name := "fnCutDescribeTopicPartitionsResponse", fn := fun _ => fun
  | [d1, d2, d3] => { results := [.lit (.bool false)], args := [d1, d2, d3] }
  | _ => none }
def FnCutDescribeTopicPartitionsResponseWrongFalsely : Prop := fnCutDescribeTopicPartitionsResponseRow.holds Tryz.pinned (OpenSpec.ofChange fnCutDescribeTopicPartitionsResponseWrong)

/-- 'laws.FnAgainMetadataResponse': WHATEVER THE INPUT: true; the input reads as it did. -/
def fnAgainMetadataResponseSpec : ChangeSpec := { name := "fnAgainMetadataResponse", fn := fun _ => fun
  | [d1, d2] => { results := [.lit (.bool true)], args := [d1, d2] }
  | _ => none }
def fnAgainMetadataResponseRow : OpenClaim := { program := "ytfchajjllhndlabgreatdoor", sum := "0117c8123acf975e6527e0e189d8603a26e15407affbed7f949718d6b53ab7a0", func := "pub-kmsg/laws.FnAgainMetadataResponse", spec := "fnAgainMetadataResponse", inPlace := ["internal/reflectlite.ValueOf", "internal/reflectlite.Swapper", "(internal/reflectlite.Value).Len"], unfollowed := true, recurses := true, named := ["encoding/binary.BigEndian", "pub-kmsg/pub/kmsg/inner/kbin.ErrNotEnoughData"], loops := true, apart := false, laid := [("pub-kmsg/pub/kmsg/inner/kbin.ErrNotEnoughData", laid_pub_kmsg_pub_kmsg_inner_kbin_ErrNotEnoughData)] }
def FnAgainMetadataResponseSaid : Prop := fnAgainMetadataResponseRow.holds Tryz.pinned (OpenSpec.ofChange fnAgainMetadataResponseSpec)

/-- ITS FALSE NEIGHBOUR: 'it returns false'. Refute it at one input. -/
def fnAgainMetadataResponseWrong : ChangeSpec := { name := "fnAgainMetadataResponse", fn := fun _ => fun
  | [d1, d2] => { results := [.lit (.bool false)], args := [d1, d2] }
  | _ => none }
def FnAgainMetadataResponseWrongFalsely : Prop := fnAgainMetadataResponseRow.holds Tryz.pinned (OpenSpec.ofChange fnAgainMetadataResponseWrong)

/-- 'laws.FnCutShareGroupDescribeResponse': WHATEVER THE INPUT: true; the input reads as it did. -/
def fnCutShareGroupDescribeResponseSpec : ChangeSpec := { name := "fnCutShareGroupDescribeResponse", fn := fun _ => fun
  | [d1, d2, d3] => { results := [.lit (.bool true)], args := [d1, d2, d3] }
  | _ => none }
def fnCutShareGroupDescribeResponseRow : OpenClaim := { program := "ytfchajjllhndlabgreatdoor", sum := "0117c8123acf975e6527e0e189d8603a26e15407affbed7f949718d6b53ab7a0", func := "pub-kmsg/laws.FnCutShareGroupDescribeResponse", spec := "fnCutShareGroupDescribeResponse", inPlace := ["internal/reflectlite.ValueOf", "internal/reflectlite.Swapper", "(internal/reflectlite.Value).Len"], unfollowed := true, recurses := true, named := ["encoding/binary.BigEndian", "pub-kmsg/pub/kmsg/inner/kbin.ErrNotEnoughData"], loops := true, apart := false, laid := [("pub-kmsg/pub/kmsg/inner/kbin.ErrNotEnoughData", laid_pub_kmsg_pub_kmsg_inner_kbin_ErrNotEnoughData)] }
def FnCutShareGroupDescribeResponseSaid : Prop := fnCutShareGroupDescribeResponseRow.holds Tryz.pinned (OpenSpec.ofChange fnCutShareGroupDescribeResponseSpec)

/-- ITS FALSE NEIGHBOUR: 'it returns false'. Refute it at one input. -/
def fnCutShareGroupDescribeResponseWrong : ChangeSpec := { name := "fnCutShareGroupDescribeResponse", fn := fun _ => fun
  | [d1, d2, d3] => { results := [.lit (.bool false)], args := [d1, d2, d3] }
  | _ => none }
def FnCutShareGroupDescribeResponseWrongFalsely : Prop := fnCutShareGroupDescribeResponseRow.holds Tryz.pinned (OpenSpec.ofChange fnCutShareGroupDescribeResponseWrong)

/-- 'laws.FnAgainDescribeQuorumResponse': WHATEVER THE INPUT: true; the input reads as it did. -/
def fnAgainDescribeQuorumResponseSpec : ChangeSpec := { name := "fnAgainDescribeQuorumResponse", fn := fun _ => fun
  | [d1, d2] => { results := [.lit (.bool true)], args := [d1, d2] }
  | _ => none }
def fnAgainDescribeQuorumResponseRow : OpenClaim := { program := "ytfchajjllhndlabgreatdoor", sum := "0117c8123acf975e6527e0e189d8603a26e15407affbed7f949718d6b53ab7a0", func := "pub-kmsg/laws.FnAgainDescribeQuorumResponse", spec := "fnAgainDescribeQuorumResponse", inPlace := ["internal/reflectlite.ValueOf", "internal/reflectlite.Swapper", "(internal/reflectlite.Value).Len"], unfollowed := true, recurses := true, named := ["encoding/binary.BigEndian", "pub-kmsg/pub/kmsg/inner/kbin.ErrNotEnoughData"], loops := true, apart := false, laid := [("pub-kmsg/pub/kmsg/inner/kbin.ErrNotEnoughData", laid_pub_kmsg_pub_kmsg_inner_kbin_ErrNotEnoughData)] }
def FnAgainDescribeQuorumResponseSaid : Prop := fnAgainDescribeQuorumResponseRow.holds Tryz.pinned (OpenSpec.ofChange fnAgainDescribeQuorumResponseSpec)

/-- ITS FALSE NEIGHBOUR: 'it returns false'. Refute it at one input. -/
def fnAgainDescribeQuorumResponseWrong : ChangeSpec := { name := "fnAgainDescribeQuorumResponse", fn := fun _ => fun
  | [d1, d2] => { results := [.lit (.bool false)], args := [d1, d2] }
  | _ => none }
def FnAgainDescribeQuorumResponseWrongFalsely : Prop := fnAgainDescribeQuorumResponseRow.holds Tryz.pinned (OpenSpec.ofChange fnAgainDescribeQuorumResponseWrong)

/- THE SECOND FORM. 'bulk': how many values and letters a reading holds, each counted each time it is reached (what is shared counts as often as it is met; a slice's spare places count too). A statement '..UptoSaid' is the law's where the arguments, and the package variables that the reading takes, are together of bulk at most 1048576: NARROWER than '..Said'. Prove '..Said' where nothing that the law and all that it calls make is longer than what came in: it says more and counts as full. Else prove '..UptoSaid'. A law counts once. -/
mutual
def uptoBulk {H : Type} : DataW H → Nat
  | .lit (.string bytes) => bytes.length + 1
  | .lit _ => 1
  | .nil => 1
  | .ptr d => uptoBulk d + 1
  | .slice elems spare => uptoBulkAll elems + uptoBulkAll spare + 1
  | .agg parts => uptoBulkAll parts + 1
  | .iface _ d => uptoBulk d + 1
  | .map entries => uptoBulkEntries entries + 1
  | .held _ => 1
def uptoBulkAll {H : Type} : List (DataW H) → Nat
  | [] => 0
  | d :: r => uptoBulk d + uptoBulkAll r
def uptoBulkEntries {H : Type} : List (Lit × DataW H) → Nat
  | [] => 0
  | x :: r => uptoBulkEntry x + uptoBulkEntries r
def uptoBulkEntry {H : Type} : Lit × DataW H → Nat
  | (.string bytes, d) => bytes.length + uptoBulk d + 1
  | (_, d) => uptoBulk d + 1
 end
def uptoSmall : (H : Type) → List (DataW H) → Bool := fun _ ds => decide (uptoBulkAll ds ≤ 1048576)
def OpenSpec.upto (s : _root_.Go.ChangeSpec) : _root_.Go.OpenSpec := { _root_.Go.OpenSpec.ofChange s with cond := some uptoSmall }

/-- 'laws.FnAgainAssignReplicasToDirsResponse', WHERE WHAT IT READS IS OF BULK AT MOST 1048576: true; the input reads as it did. -/
def fnAgainAssignReplicasToDirsResponseUptoRow : OpenClaim := { program := "ytfchajjllhndlabgreatdoor", sum := "0117c8123acf975e6527e0e189d8603a26e15407affbed7f949718d6b53ab7a0", func := "pub-kmsg/laws.FnAgainAssignReplicasToDirsResponse", spec := "fnAgainAssignReplicasToDirsResponse", inPlace := ["internal/reflectlite.ValueOf", "internal/reflectlite.Swapper", "(internal/reflectlite.Value).Len"], unfollowed := true, recurses := true, named := ["encoding/binary.BigEndian", "pub-kmsg/pub/kmsg/inner/kbin.ErrNotEnoughData"], loops := true, apart := false, laid := [("pub-kmsg/pub/kmsg/inner/kbin.ErrNotEnoughData", laid_pub_kmsg_pub_kmsg_inner_kbin_ErrNotEnoughData)], narrowed := true }
def FnAgainAssignReplicasToDirsResponseUptoSaid : Prop := fnAgainAssignReplicasToDirsResponseUptoRow.holds Tryz.pinned (OpenSpec.upto fnAgainAssignReplicasToDirsResponseSpec)

/-- 'laws.FnCutIncrementalAlterConfigsResponse', WHERE WHAT IT READS IS OF BULK AT MOST 1048576: true; the input reads as it did. -/
def fnCutIncrementalAlterConfigsResponseUptoRow : OpenClaim := { program := "ytfchajjllhndlabgreatdoor", sum := "0117c8123acf975e6527e0e189d8603a26e15407affbed7f949718d6b53ab7a0", func := "pub-kmsg/laws.FnCutIncrementalAlterConfigsResponse", spec := "fnCutIncrementalAlterConfigsResponse", inPlace := ["internal/reflectlite.ValueOf", "internal/reflectlite.Swapper", "(internal/reflectlite.Value).Len"], unfollowed := true, recurses := true, named := ["encoding/binary.BigEndian", "pub-kmsg/pub/kmsg/inner/kbin.ErrNotEnoughData"], loops := true, apart := false, laid := [("pub-kmsg/pub/kmsg/inner/kbin.ErrNotEnoughData", laid_pub_kmsg_pub_kmsg_inner_kbin_ErrNotEnoughData)], narrowed := true }
def FnCutIncrementalAlterConfigsResponseUptoSaid : Prop := fnCutIncrementalAlterConfigsResponseUptoRow.holds Tryz.pinned (OpenSpec.upto fnCutIncrementalAlterConfigsResponseSpec)

/-- 'laws.FnCutDeleteShareGroupOffsetsResponse', WHERE WHAT IT READS IS OF BULK AT MOST 1048576: true; the input reads as it did. -/
def fnCutDeleteShareGroupOffsetsResponseUptoRow : OpenClaim := { program := "ytfchajjllhndlabgreatdoor", sum := "0117c8123acf975e6527e0e189d8603a26e15407affbed7f949718d6b53ab7a0", func := "pub-kmsg/laws.FnCutDeleteShareGroupOffsetsResponse", spec := "fnCutDeleteShareGroupOffsetsResponse", inPlace := ["internal/reflectlite.ValueOf", "internal/reflectlite.Swapper", "(internal/reflectlite.Value).Len"], unfollowed := true, recurses := true, named := ["encoding/binary.BigEndian", "pub-kmsg/pub/kmsg/inner/kbin.ErrNotEnoughData"], loops := true, apart := false, laid := [("pub-kmsg/pub/kmsg/inner/kbin.ErrNotEnoughData", laid_pub_kmsg_pub_kmsg_inner_kbin_ErrNotEnoughData)], narrowed := true }
def FnCutDeleteShareGroupOffsetsResponseUptoSaid : Prop := fnCutDeleteShareGroupOffsetsResponseUptoRow.holds Tryz.pinned (OpenSpec.upto fnCutDeleteShareGroupOffsetsResponseSpec)

/-- 'laws.FnAgainAlterPartitionAssignmentsRequest', WHERE WHAT IT READS IS OF BULK AT MOST 1048576: true; the input reads as it did. -/
def fnAgainAlterPartitionAssignmentsRequestUptoRow : OpenClaim := { program := "ytfchajjllhndlabgreatdoor", sum := "0117c8123acf975e6527e0e189d8603a26e15407affbed7f949718d6b53ab7a0", func := "pub-kmsg/laws.FnAgainAlterPartitionAssignmentsRequest", spec := "fnAgainAlterPartitionAssignmentsRequest", inPlace := ["internal/reflectlite.ValueOf", "internal/reflectlite.Swapper", "(internal/reflectlite.Value).Len"], unfollowed := true, recurses := true, named := ["encoding/binary.BigEndian", "pub-kmsg/pub/kmsg/inner/kbin.ErrNotEnoughData"], loops := true, apart := false, laid := [("pub-kmsg/pub/kmsg/inner/kbin.ErrNotEnoughData", laid_pub_kmsg_pub_kmsg_inner_kbin_ErrNotEnoughData)], narrowed := true }
def FnAgainAlterPartitionAssignmentsRequestUptoSaid : Prop := fnAgainAlterPartitionAssignmentsRequestUptoRow.holds Tryz.pinned (OpenSpec.upto fnAgainAlterPartitionAssignmentsRequestSpec)

/-- 'laws.FnAgainControllerRegistrationRequest', WHERE WHAT IT READS IS OF BULK AT MOST 1048576: true; the input reads as it did. -/
def fnAgainControllerRegistrationRequestUptoRow : OpenClaim := { program := "ytfchajjllhndlabgreatdoor", sum := "0117c8123acf975e6527e0e189d8603a26e15407affbed7f949718d6b53ab7a0", func := "pub-kmsg/laws.FnAgainControllerRegistrationRequest", spec := "fnAgainControllerRegistrationRequest", inPlace := ["internal/reflectlite.ValueOf", "internal/reflectlite.Swapper", "(internal/reflectlite.Value).Len"], unfollowed := true, recurses := true, named := ["encoding/binary.BigEndian", "pub-kmsg/pub/kmsg/inner/kbin.ErrNotEnoughData"], loops := true, apart := false, laid := [("pub-kmsg/pub/kmsg/inner/kbin.ErrNotEnoughData", laid_pub_kmsg_pub_kmsg_inner_kbin_ErrNotEnoughData)], narrowed := true }
def FnAgainControllerRegistrationRequestUptoSaid : Prop := fnAgainControllerRegistrationRequestUptoRow.holds Tryz.pinned (OpenSpec.upto fnAgainControllerRegistrationRequestSpec)

/-- 'laws.FnCutAddPartitionsToTxnResponse', WHERE WHAT IT READS IS OF BULK AT MOST 1048576: true; the input reads as it did. -/
def fnCutAddPartitionsToTxnResponseUptoRow : OpenClaim := { program := "ytfchajjllhndlabgreatdoor", sum := "0117c8123acf975e6527e0e189d8603a26e15407affbed7f949718d6b53ab7a0", func := "pub-kmsg/laws.FnCutAddPartitionsToTxnResponse", spec := "fnCutAddPartitionsToTxnResponse", inPlace := ["internal/reflectlite.ValueOf", "internal/reflectlite.Swapper", "(internal/reflectlite.Value).Len"], unfollowed := true, recurses := true, named := ["encoding/binary.BigEndian", "pub-kmsg/pub/kmsg/inner/kbin.ErrNotEnoughData"], loops := true, apart := false, laid := [("pub-kmsg/pub/kmsg/inner/kbin.ErrNotEnoughData", laid_pub_kmsg_pub_kmsg_inner_kbin_ErrNotEnoughData)], narrowed := true }
def FnCutAddPartitionsToTxnResponseUptoSaid : Prop := fnCutAddPartitionsToTxnResponseUptoRow.holds Tryz.pinned (OpenSpec.upto fnCutAddPartitionsToTxnResponseSpec)

/-- 'laws.FnCutTxnOffsetCommitRequest', WHERE WHAT IT READS IS OF BULK AT MOST 1048576: true; the input reads as it did. -/
def fnCutTxnOffsetCommitRequestUptoRow : OpenClaim := { program := "ytfchajjllhndlabgreatdoor", sum := "0117c8123acf975e6527e0e189d8603a26e15407affbed7f949718d6b53ab7a0", func := "pub-kmsg/laws.FnCutTxnOffsetCommitRequest", spec := "fnCutTxnOffsetCommitRequest", inPlace := ["internal/reflectlite.ValueOf", "internal/reflectlite.Swapper", "(internal/reflectlite.Value).Len"], unfollowed := true, recurses := true, named := ["encoding/binary.BigEndian", "pub-kmsg/pub/kmsg/inner/kbin.ErrNotEnoughData"], loops := true, apart := false, laid := [("pub-kmsg/pub/kmsg/inner/kbin.ErrNotEnoughData", laid_pub_kmsg_pub_kmsg_inner_kbin_ErrNotEnoughData)], narrowed := true }
def FnCutTxnOffsetCommitRequestUptoSaid : Prop := fnCutTxnOffsetCommitRequestUptoRow.holds Tryz.pinned (OpenSpec.upto fnCutTxnOffsetCommitRequestSpec)

/-- 'laws.FnAgainShareAcknowledgeResponse', WHERE WHAT IT READS IS OF BULK AT MOST 1048576: true; the input reads as it did. -/
def fnAgainShareAcknowledgeResponseUptoRow : OpenClaim := { program := "ytfchajjllhndlabgreatdoor", sum := "0117c8123acf975e6527e0e189d8603a26e15407affbed7f949718d6b53ab7a0", func := "pub-kmsg/laws.FnAgainShareAcknowledgeResponse", spec := "fnAgainShareAcknowledgeResponse", inPlace := ["internal/reflectlite.ValueOf", "internal/reflectlite.Swapper", "(internal/reflectlite.Value).Len"], unfollowed := true, recurses := true, named := ["encoding/binary.BigEndian", "pub-kmsg/pub/kmsg/inner/kbin.ErrNotEnoughData"], loops := true, apart := false, laid := [("pub-kmsg/pub/kmsg/inner/kbin.ErrNotEnoughData", laid_pub_kmsg_pub_kmsg_inner_kbin_ErrNotEnoughData)], narrowed := true }
def FnAgainShareAcknowledgeResponseUptoSaid : Prop := fnAgainShareAcknowledgeResponseUptoRow.holds Tryz.pinned (OpenSpec.upto fnAgainShareAcknowledgeResponseSpec)

/-- 'laws.FnCutDescribeTopicPartitionsResponse', WHERE WHAT IT READS IS OF BULK AT MOST 1048576: true; the input reads as it did. -/
def fnCutDescribeTopicPartitionsResponseUptoRow : OpenClaim := { program := "ytfchajjllhndlabgreatdoor", sum := "0117c8123acf975e6527e0e189d8603a26e15407affbed7f949718d6b53ab7a0", func := "pub-kmsg/laws.FnCutDescribeTopicPartitionsResponse", spec := "fnCutDescribeTopicPartitionsResponse", inPlace := ["internal/reflectlite.ValueOf", "internal/reflectlite.Swapper", "(internal/reflectlite.Value).Len"], unfollowed := true, recurses := true, named := ["encoding/binary.BigEndian", "pub-kmsg/pub/kmsg/inner/kbin.ErrNotEnoughData"], loops := true, apart := false, laid := [("pub-kmsg/pub/kmsg/inner/kbin.ErrNotEnoughData", laid_pub_kmsg_pub_kmsg_inner_kbin_ErrNotEnoughData)], narrowed := true }
def FnCutDescribeTopicPartitionsResponseUptoSaid : Prop := fnCutDescribeTopicPartitionsResponseUptoRow.holds Tryz.pinned (OpenSpec.upto fnCutDescribeTopicPartitionsResponseSpec)

/-- 'laws.FnAgainMetadataResponse', WHERE WHAT IT READS IS OF BULK AT MOST 1048576: true; the input reads as it did. -/
def fnAgainMetadataResponseUptoRow : OpenClaim := { program := "ytfchajjllhndlabgreatdoor", sum := "0117c8123acf975e6527e0e189d8603a26e15407affbed7f949718d6b53ab7a0", func := "pub-kmsg/laws.FnAgainMetadataResponse", spec := "fnAgainMetadataResponse", inPlace := ["internal/reflectlite.ValueOf", "internal/reflectlite.Swapper", "(internal/reflectlite.Value).Len"], unfollowed := true, recurses := true, named := ["encoding/binary.BigEndian", "pub-kmsg/pub/kmsg/inner/kbin.ErrNotEnoughData"], loops := true, apart := false, laid := [("pub-kmsg/pub/kmsg/inner/kbin.ErrNotEnoughData", laid_pub_kmsg_pub_kmsg_inner_kbin_ErrNotEnoughData)], narrowed := true }
def FnAgainMetadataResponseUptoSaid : Prop := fnAgainMetadataResponseUptoRow.holds Tryz.pinned (OpenSpec.upto fnAgainMetadataResponseSpec)

/-- 'laws.FnCutShareGroupDescribeResponse', WHERE WHAT IT READS IS OF BULK AT MOST 1048576: true; the input reads as it did. -/
def fnCutShareGroupDescribeResponseUptoRow : OpenClaim := { program := "ytfchajjllhndlabgreatdoor", sum := "0117c8123acf975e6527e0e189d8603a26e15407affbed7f949718d6b53ab7a0", func := "pub-kmsg/laws.FnCutShareGroupDescribeResponse", spec := "fnCutShareGroupDescribeResponse", inPlace := ["internal/reflectlite.ValueOf", "internal/reflectlite.Swapper", "(internal/reflectlite.Value).Len"], unfollowed := true, recurses := true, named := ["encoding/binary.BigEndian", "pub-kmsg/pub/kmsg/inner/kbin.ErrNotEnoughData"], loops := true, apart := false, laid := [("pub-kmsg/pub/kmsg/inner/kbin.ErrNotEnoughData", laid_pub_kmsg_pub_kmsg_inner_kbin_ErrNotEnoughData)], narrowed := true }
def FnCutShareGroupDescribeResponseUptoSaid : Prop := fnCutShareGroupDescribeResponseUptoRow.holds Tryz.pinned (OpenSpec.upto fnCutShareGroupDescribeResponseSpec)

/-- 'laws.FnAgainDescribeQuorumResponse', WHERE WHAT IT READS IS OF BULK AT MOST 1048576: true; the input reads as it did. -/
def fnAgainDescribeQuorumResponseUptoRow : OpenClaim := { program := "ytfchajjllhndlabgreatdoor", sum := "0117c8123acf975e6527e0e189d8603a26e15407affbed7f949718d6b53ab7a0", func := "pub-kmsg/laws.FnAgainDescribeQuorumResponse", spec := "fnAgainDescribeQuorumResponse", inPlace := ["internal/reflectlite.ValueOf", "internal/reflectlite.Swapper", "(internal/reflectlite.Value).Len"], unfollowed := true, recurses := true, named := ["encoding/binary.BigEndian", "pub-kmsg/pub/kmsg/inner/kbin.ErrNotEnoughData"], loops := true, apart := false, laid := [("pub-kmsg/pub/kmsg/inner/kbin.ErrNotEnoughData", laid_pub_kmsg_pub_kmsg_inner_kbin_ErrNotEnoughData)], narrowed := true }
def FnAgainDescribeQuorumResponseUptoSaid : Prop := fnAgainDescribeQuorumResponseUptoRow.holds Tryz.pinned (OpenSpec.upto fnAgainDescribeQuorumResponseSpec)

end Rows
end Go.Proofs.YtfchajjllhndlabGreatDoor
