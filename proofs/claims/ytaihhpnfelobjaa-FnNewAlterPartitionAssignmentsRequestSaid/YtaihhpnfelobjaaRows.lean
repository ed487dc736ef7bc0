/-
  No cell of these rows narrows 'for every input' (looked for: loops, veiled, ifaces, maps, wideKeys, modest, calm, conditions, laid).
  DERIVED. THE GIVEN ROWS OF THIS SEAT. 9 by the template 'for every input the law returns true; each argument reads behind the call as it read before'; 0 by the template 'total and deterministic' (their statements: YtaihhpnfelobjaaTotals.lean).
  GIVEN WITH THE SEED: the statements are not yours to turn. If you find one false, say at which input.
  Laid BY PROGRAM, IN A SANDBOX (cutbox-rows.mjs): the forced cells as the released guide's own fill.sh prints them over the translation 661831ff2a6d9b85… (all of the seat's roots in one cut). By AI agents, Wed Nov 11 2026. No macro, syntax, notation, axiom, sorry.
-/
import Derived.Test.YtaihhpnfelobjaaChecked
import GoSem.Claim
import GoSem.ClaimJoined
import GoSem.ClaimMapViews
import Derived.JoinedTies
import Derived.KernelRfl
namespace Go.Proofs.Ytaihhpnfelobjaa
/- THE CELL 'sum', in the pinned program and in every row, IS THE sha256 OF THE DUMP (.gsa) THAT YtaihhpnfelobjaaProg.lean LOADS. Nothing in Lean hashes anything: it is a label: what it is worth is what the hold of that sum in a sandbox is worth. -/
noncomputable def Try.pinned : Pinned := { name := "ytaihhpnfelobjaa", sum := "661831ff2a6d9b8593eb06370bf8860100c9fffbb2d397576d1796decb7b5d76", checked := Try.checked }
namespace Rows
def none {H : Type} : Left H := { results := [], args := [] }

/-- 'laws.FnNewDeleteGroupsResponse': WHATEVER THE INPUT: true; the input reads as it did. -/
def fnNewDeleteGroupsResponseSpec : ChangeSpec := { name := "fnNewDeleteGroupsResponse", fn := fun _ => fun
  | [d] => { results := [.lit (.bool true)], args := [d] }
  | _ => none }
def fnNewDeleteGroupsResponseRow : OpenClaim := { program := "ytaihhpnfelobjaa", sum := "661831ff2a6d9b8593eb06370bf8860100c9fffbb2d397576d1796decb7b5d76", func := "pub-kmsg/laws.FnNewDeleteGroupsResponse", spec := "fnNewDeleteGroupsResponse", inPlace := ["internal/reflectlite.ValueOf", "internal/reflectlite.Swapper", "(internal/reflectlite.Value).Len"], unfollowed := true, recurses := true, apart := false }
def FnNewDeleteGroupsResponseSaid : Prop := fnNewDeleteGroupsResponseRow.holds Try.pinned (OpenSpec.ofChange fnNewDeleteGroupsResponseSpec)

/-- ITS FALSE NEIGHBOUR: 'it returns false'. Refute it at one input. -/
def fnNewDeleteGroupsResponseWrong : ChangeSpec := { name := "fnNewDeleteGroupsResponse", fn := fun _ => fun
  | [d] => { results := [.lit (.bool false)], args := [d] }
  | _ => none }
def FnNewDeleteGroupsResponseWrongFalsely : Prop := fnNewDeleteGroupsResponseRow.holds Try.pinned (OpenSpec.ofChange fnNewDeleteGroupsResponseWrong)

/-- 'laws.FnNewReadShareGroupStateRequest': WHATEVER THE INPUT: true; the input reads as it did. -/
def fnNewReadShareGroupStateRequestSpec : ChangeSpec := { name := "fnNewReadShareGroupStateRequest", fn := fun _ => fun
  | [d] => { results := [.lit (.bool true)], args := [d] }
  | _ => none }
def fnNewReadShareGroupStateRequestRow : OpenClaim := { program := "ytaihhpnfelobjaa", sum := "661831ff2a6d9b8593eb06370bf8860100c9fffbb2d397576d1796decb7b5d76", func := "pub-kmsg/laws.FnNewReadShareGroupStateRequest", spec := "fnNewReadShareGroupStateRequest", inPlace := ["internal/reflectlite.ValueOf", "internal/reflectlite.Swapper", "(internal/reflectlite.Value).Len"], unfollowed := true, recurses := true, apart := false }
def FnNewReadShareGroupStateRequestSaid : Prop := fnNewReadShareGroupStateRequestRow.holds Try.pinned (OpenSpec.ofChange fnNewReadShareGroupStateRequestSpec)

/-- ITS FALSE NEIGHBOUR: 'it returns false'. Refute it at one input. -/
def fnNewReadShareGroupStateRequestWrong : ChangeSpec := { name := "fnNewReadShareGroupStateRequest", fn := fun _ => fun
  | [d] => { results := [.lit (.bool false)], args := [d] }
  | _ => none }
def FnNewReadShareGroupStateRequestWrongFalsely : Prop := fnNewReadShareGroupStateRequestRow.holds Try.pinned (OpenSpec.ofChange fnNewReadShareGroupStateRequestWrong)

/-- 'laws.FnNewAssignReplicasToDirsResponse': WHATEVER THE INPUT: true; the input reads as it did. -/
def fnNewAssignReplicasToDirsResponseSpec : ChangeSpec := { name := "fnNewAssignReplicasToDirsResponse", fn := fun _ => fun
  | [d] => { results := [.lit (.bool true)], args := [d] }
  | _ => none }
def fnNewAssignReplicasToDirsResponseRow : OpenClaim := { program := "ytaihhpnfelobjaa", sum := "661831ff2a6d9b8593eb06370bf8860100c9fffbb2d397576d1796decb7b5d76", func := "pub-kmsg/laws.FnNewAssignReplicasToDirsResponse", spec := "fnNewAssignReplicasToDirsResponse", inPlace := ["internal/reflectlite.ValueOf", "internal/reflectlite.Swapper", "(internal/reflectlite.Value).Len"], unfollowed := true, recurses := true, apart := false }
def FnNewAssignReplicasToDirsResponseSaid : Prop := fnNewAssignReplicasToDirsResponseRow.holds Try.pinned (OpenSpec.ofChange fnNewAssignReplicasToDirsResponseSpec)

/-- ITS FALSE NEIGHBOUR: 'it returns false'. Refute it at one input. -/
def fnNewAssignReplicasToDirsResponseWrong : ChangeSpec := { name := "fnNewAssignReplicasToDirsResponse", fn := fun _ => fun
  | [d] => { results := [.lit (.bool false)], args := [d] }
  | _ => none }
def FnNewAssignReplicasToDirsResponseWrongFalsely : Prop := fnNewAssignReplicasToDirsResponseRow.holds Try.pinned (OpenSpec.ofChange fnNewAssignReplicasToDirsResponseWrong)

/-- 'laws.FnNewLeaveGroupRequest': WHATEVER THE INPUT: true; the input reads as it did. -/
def fnNewLeaveGroupRequestSpec : ChangeSpec := { name := "fnNewLeaveGroupRequest", fn := fun _ => fun
  | [d] => { results := [.lit (.bool true)], args := [d] }
  | _ => none }
def fnNewLeaveGroupRequestRow : OpenClaim := { program := "ytaihhpnfelobjaa", sum := "661831ff2a6d9b8593eb06370bf8860100c9fffbb2d397576d1796decb7b5d76", func := "pub-kmsg/laws.FnNewLeaveGroupRequest", spec := "fnNewLeaveGroupRequest", inPlace := ["internal/reflectlite.ValueOf", "internal/reflectlite.Swapper", "(internal/reflectlite.Value).Len"], unfollowed := true, recurses := true, apart := false }
def FnNewLeaveGroupRequestSaid : Prop := fnNewLeaveGroupRequestRow.holds Try.pinned (OpenSpec.ofChange fnNewLeaveGroupRequestSpec)

/-- ITS FALSE NEIGHBOUR: 'it returns false'. Refute it at one input. -/
def fnNewLeaveGroupRequestWrong : ChangeSpec := { name := "fnNewLeaveGroupRequest", fn := fun _ => fun
  | [d] => { results := [.lit (.bool false)], args := [d] }
  | _ => none }
def FnNewLeaveGroupRequestWrongFalsely : Prop := fnNewLeaveGroupRequestRow.holds Try.pinned (OpenSpec.ofChange fnNewLeaveGroupRequestWrong)

/-- 'laws.FnNewGetTelemetrySubscriptionsResponse': WHATEVER THE INPUT: true; the input reads as it did. -/
def fnNewGetTelemetrySubscriptionsResponseSpec : ChangeSpec := { name := "fnNewGetTelemetrySubscriptionsResponse", fn := fun _ => fun
  | [d] => { results := [.lit (.bool true)], args := [d] }
  | _ => none }
def fnNewGetTelemetrySubscriptionsResponseRow : OpenClaim := { program := "ytaihhpnfelobjaa", sum := "661831ff2a6d9b8593eb06370bf8860100c9fffbb2d397576d1796decb7b5d76", func := "pub-kmsg/laws.FnNewGetTelemetrySubscriptionsResponse", spec := "fnNewGetTelemetrySubscriptionsResponse", inPlace := ["internal/reflectlite.ValueOf", "internal/reflectlite.Swapper", "(internal/reflectlite.Value).Len"], unfollowed := true, recurses := true, apart := false }
def FnNewGetTelemetrySubscriptionsResponseSaid : Prop := fnNewGetTelemetrySubscriptionsResponseRow.holds Try.pinned (OpenSpec.ofChange fnNewGetTelemetrySubscriptionsResponseSpec)

/-- ITS FALSE NEIGHBOUR: 'it returns false'. Refute it at one input. -/
def fnNewGetTelemetrySubscriptionsResponseWrong : ChangeSpec := { name := "fnNewGetTelemetrySubscriptionsResponse", fn := fun _ => fun
  | [d] => { results := [.lit (.bool false)], args := [d] }
  | _ => none }
def FnNewGetTelemetrySubscriptionsResponseWrongFalsely : Prop := fnNewGetTelemetrySubscriptionsResponseRow.holds Try.pinned (OpenSpec.ofChange fnNewGetTelemetrySubscriptionsResponseWrong)

/-- 'laws.FnNewAlterPartitionAssignmentsRequest': WHATEVER THE INPUT: true; the input reads as it did. -/
def fnNewAlterPartitionAssignmentsRequestSpec : ChangeSpec := { name := "fnNewAlterPartitionAssignmentsRequest", fn := fun _ => fun
  | [d] => { results := [.lit (.bool true)], args := [d] }
  | _ => none }
def fnNewAlterPartitionAssignmentsRequestRow : OpenClaim := { program := "ytaihhpnfelobjaa", sum := "661831ff2a6d9b8593eb06370bf8860100c9fffbb2d397576d1796decb7b5d76", func := "pub-kmsg/laws.FnNewAlterPartitionAssignmentsRequest", spec := "fnNewAlterPartitionAssignmentsRequest", inPlace := ["internal/reflectlite.ValueOf", "internal/reflectlite.Swapper", "(internal/reflectlite.Value).Len"], unfollowed := true, recurses := true, apart := false }
def FnNewAlterPartitionAssignmentsRequestSaid : Prop := fnNewAlterPartitionAssignmentsRequestRow.holds Try.pinned (OpenSpec.ofChange fnNewAlterPartitionAssignmentsRequestSpec)

/-- ITS FALSE NEIGHBOUR: 'it returns false'. Refute it at one input. -/
def fnNewAlterPartitionAssignmentsRequestWrong : ChangeSpec := { name := "fnNewAlterPartitionAssignmentsRequest", fn := fun _ => fun
  | [d] => { results := [.lit (.bool false)], args := [d] }
  | _ => none }
def FnNewAlterPartitionAssignmentsRequestWrongFalsely : Prop := fnNewAlterPartitionAssignmentsRequestRow.holds Try.pinned (OpenSpec.ofChange fnNewAlterPartitionAssignmentsRequestWrong)

/-- 'laws.FnNewControllerRegistrationRequest': WHATEVER THE INPUT: true; the input reads as it did. -/
def fnNewControllerRegistrationRequestSpec : ChangeSpec := { name := "fnNewControllerRegistrationRequest", fn := fun _ => fun
  | [d] => { results := [.lit (.bool true)], args := [d] }
  | _ => none }
def fnNewControllerRegistrationRequestRow : OpenClaim := { program := "ytaihhpnfelobjaa", sum := "661831ff2a6d9b8593eb06370bf8860100c9fffbb2d397576d1796decb7b5d76", func := "pub-kmsg/laws.FnNewControllerRegistrationRequest", spec := "fnNewControllerRegistrationRequest", inPlace := ["internal/reflectlite.ValueOf", "internal/reflectlite.Swapper", "(internal/reflectlite.Value).Len"], unfollowed := true, recurses := true, apart := false }
def FnNewControllerRegistrationRequestSaid : Prop := fnNewControllerRegistrationRequestRow.holds Try.pinned (OpenSpec.ofChange fnNewControllerRegistrationRequestSpec)

/-- ITS FALSE NEIGHBOUR: 'it returns false'. Refute it at one input. -/
def fnNewControllerRegistrationRequestWrong : ChangeSpec := { name := "fnNewControllerRegistrationRequest", fn := fun _ => fun
  | [d] => { results := [.lit (.bool false)], args := [d] }
  | _ => none }
def FnNewControllerRegistrationRequestWrongFalsely : Prop := fnNewControllerRegistrationRequestRow.holds Try.pinned (OpenSpec.ofChange fnNewControllerRegistrationRequestWrong)

/-- 'laws.FnNewShareAcknowledgeResponse': WHATEVER THE INPUT: true; the input reads as it did. -/
def fnNewShareAcknowledgeResponseSpec : ChangeSpec := { name := "fnNewShareAcknowledgeResponse", fn := fun _ => fun
  | [d] => { results := [.lit (.bool true)], args := [d] }
  | _ => none }
def fnNewShareAcknowledgeResponseRow : OpenClaim := { program := "ytaihhpnfelobjaa", sum := "661831ff2a6d9b8593eb06370bf8860100c9fffbb2d397576d1796decb7b5d76", func := "pub-kmsg/laws.FnNewShareAcknowledgeResponse", spec := "fnNewShareAcknowledgeResponse", inPlace := ["internal/reflectlite.ValueOf", "internal/reflectlite.Swapper", "(internal/reflectlite.Value).Len"], unfollowed := true, recurses := true, apart := false }
def FnNewShareAcknowledgeResponseSaid : Prop := fnNewShareAcknowledgeResponseRow.holds Try.pinned (OpenSpec.ofChange fnNewShareAcknowledgeResponseSpec)

/-- ITS FALSE NEIGHBOUR: 'it returns false'. Refute it at one input. -/
def fnNewShareAcknowledgeResponseWrong : ChangeSpec := { name := "fnNewShareAcknowledgeResponse", fn := fun _ => fun
  | [d] => { results := [.lit (.bool false)], args := [d] }
  | _ => none }
def FnNewShareAcknowledgeResponseWrongFalsely : Prop := fnNewShareAcknowledgeResponseRow.holds Try.pinned (OpenSpec.ofChange fnNewShareAcknowledgeResponseWrong)

/-- 'laws.FnNewMetadataResponse': WHATEVER THE INPUT: true; the input reads as it did. -/
def fnNewMetadataResponseSpec : ChangeSpec := { name := "fnNewMetadataResponse", fn := fun _ => fun
  | [d] => { results := [.lit (.bool true)], args := [d] }
  | _ => none }
def fnNewMetadataResponseRow : OpenClaim := { program := "ytaihhpnfelobjaa", sum := "661831ff2a6d9b8593eb06370bf8860100c9fffbb2d397576d1796decb7b5d76", func := "pub-kmsg/laws.FnNewMetadataResponse", spec := "fnNewMetadataResponse", inPlace := ["internal/reflectlite.ValueOf", "internal/reflectlite.Swapper", "(internal/reflectlite.Value).Len"], unfollowed := true, recurses := true, apart := false }
def FnNewMetadataResponseSaid : Prop := fnNewMetadataResponseRow.holds Try.pinned (OpenSpec.ofChange fnNewMetadataResponseSpec)

/-- ITS FALSE NEIGHBOUR: 'it returns false'. Refute it at one input. -/
def fnNewMetadataResponseWrong : ChangeSpec := { name := "fnNewMetadataResponse", fn := fun _ => fun
  | [d] => { results := [.lit (.bool false)], args := [d] }
  | _ => none }
def FnNewMetadataResponseWrongFalsely : Prop := fnNewMetadataResponseRow.holds Try.pinned (OpenSpec.ofChange fnNewMetadataResponseWrong)

/- THE SECOND FORM. 'bulk': how many values and letters a reading holds, each counted each time it is reached (what is shared counts as often as it is met; a slice's spare places count too). A statement '..UptoSaid' is the law's where the arguments, and the package variables that the reading takes, are together of bulk at most 1048576: NARROWER than '..Said'. Prove '..Said' where nothing that the law and all that it calls make is longer than what came in: it says more and counts as full. Else prove '..UptoSaid'. A law counts once. -/
mutual
def uptoBulk {H : Type} : DataW H → Nat
  | .lit (.string bytes) => bytes.length + 1
  | .lit _ => 1
  | .nil => 1
  | .ptr d => uptoBulk d + 1
  | .slice elems spare => uptoBulkAll elems + uptoBulkAll spare + 1
  | .agg parts => uptoBulkAll parts + 1
  | .iface _ d => uptoBulk d + 1
  | .map entries => uptoBulkEntries entries + 1
  | .held _ => 1
def uptoBulkAll {H : Type} : List (DataW H) → Nat
  | [] => 0
  | d :: r => uptoBulk d + uptoBulkAll r
def uptoBulkEntries {H : Type} : List (Lit × DataW H) → Nat
  | [] => 0
  | x :: r => uptoBulkEntry x + uptoBulkEntries r
def uptoBulkEntry {H : Type} : Lit × DataW H → Nat
  | (.string bytes, d) => bytes.length + uptoBulk d + 1
  | (_, d) => uptoBulk d + 1
 end
def uptoSmall : (H : Type) → List (DataW H) → Bool := fun _ ds => decide (uptoBulkAll ds ≤ 1048576)
def OpenSpec.upto (s : _root_.Go.ChangeSpec) : _root_.Go.OpenSpec := { _root_.Go.OpenSpec.ofChange s with cond := some uptoSmall }

/-- 'laws.FnNewDeleteGroupsResponse', WHERE WHAT IT READS IS OF BULK AT MOST 1048576: true; the input reads as it did. -/
def fnNewDeleteGroupsResponseUptoRow : OpenClaim := { program := "ytaihhpnfelobjaa", sum := "661831ff2a6d9b8593eb06370bf8860100c9fffbb2d397576d1796decb7b5d76", func := "pub-kmsg/laws.FnNewDeleteGroupsResponse", spec := "fnNewDeleteGroupsResponse", inPlace := ["internal/reflectlite.ValueOf", "internal/reflectlite.Swapper", "(internal/reflectlite.Value).Len"], unfollowed := true, recurses := true, apart := false, narrowed := true }
def FnNewDeleteGroupsResponseUptoSaid : Prop := fnNewDeleteGroupsResponseUptoRow.holds Try.pinned (OpenSpec.upto fnNewDeleteGroupsResponseSpec)

/-- 'laws.FnNewReadShareGroupStateRequest', WHERE WHAT IT READS IS OF BULK AT MOST 1048576: true; the input reads as it did. -/
def fnNewReadShareGroupStateRequestUptoRow : OpenClaim := { program := "ytaihhpnfelobjaa", sum := "661831ff2a6d9b8593eb06370bf8860100c9fffbb2d397576d1796decb7b5d76", func := "pub-kmsg/laws.FnNewReadShareGroupStateRequest", spec := "fnNewReadShareGroupStateRequest", inPlace := ["internal/reflectlite.ValueOf", "internal/reflectlite.Swapper", "(internal/reflectlite.Value).Len"], unfollowed := true, recurses := true, apart := false, narrowed := true }
def FnNewReadShareGroupStateRequestUptoSaid : Prop := fnNewReadShareGroupStateRequestUptoRow.holds Try.pinned (OpenSpec.upto fnNewReadShareGroupStateRequestSpec)

/-- 'laws.FnNewAssignReplicasToDirsResponse', WHERE WHAT IT READS IS OF BULK AT MOST 1048576: true; the input reads as it did. -/
def fnNewAssignReplicasToDirsResponseUptoRow : OpenClaim := { program := "ytaihhpnfelobjaa", sum := "661831ff2a6d9b8593eb06370bf8860100c9fffbb2d397576d1796decb7b5d76", func := "pub-kmsg/laws.FnNewAssignReplicasToDirsResponse", spec := "fnNewAssignReplicasToDirsResponse", inPlace := ["internal/reflectlite.ValueOf", "internal/reflectlite.Swapper", "(internal/reflectlite.Value).Len"], unfollowed := true, recurses := true, apart := false, narrowed := true }
def FnNewAssignReplicasToDirsResponseUptoSaid : Prop := fnNewAssignReplicasToDirsResponseUptoRow.holds Try.pinned (OpenSpec.upto fnNewAssignReplicasToDirsResponseSpec)

/-- 'laws.FnNewLeaveGroupRequest', WHERE WHAT IT READS IS OF BULK AT MOST 1048576: true; the input reads as it did. -/
def fnNewLeaveGroupRequestUptoRow : OpenClaim := { program := "ytaihhpnfelobjaa", sum := "661831ff2a6d9b8593eb06370bf8860100c9fffbb2d397576d1796decb7b5d76", func := "pub-kmsg/laws.FnNewLeaveGroupRequest", spec := "fnNewLeaveGroupRequest", inPlace := ["internal/reflectlite.ValueOf", "internal/reflectlite.Swapper", "(internal/reflectlite.Value).Len"], unfollowed := true, recurses := true, apart := false, narrowed := true }
def FnNewLeaveGroupRequestUptoSaid : Prop := fnNewLeaveGroupRequestUptoRow.holds Try.pinned (OpenSpec.upto fnNewLeaveGroupRequestSpec)

/-- 'laws.FnNewGetTelemetrySubscriptionsResponse', WHERE WHAT IT READS IS OF BULK AT MOST 1048576: true; the input reads as it did. -/
def fnNewGetTelemetrySubscriptionsResponseUptoRow : OpenClaim := { program := "ytaihhpnfelobjaa", sum := "661831ff2a6d9b8593eb06370bf8860100c9fffbb2d397576d1796decb7b5d76", func := "pub-kmsg/laws.FnNewGetTelemetrySubscriptionsResponse", spec := "fnNewGetTelemetrySubscriptionsResponse", inPlace := ["internal/reflectlite.ValueOf", "internal/reflectlite.Swapper", "(internal/reflectlite.Value).Len"], unfollowed := true, recurses := true, apart := false, narrowed := true }
def FnNewGetTelemetrySubscriptionsResponseUptoSaid : Prop := fnNewGetTelemetrySubscriptionsResponseUptoRow.holds Try.pinned (OpenSpec.upto fnNewGetTelemetrySubscriptionsResponseSpec)

/-- 'laws.FnNewAlterPartitionAssignmentsRequest', WHERE WHAT IT READS IS OF BULK AT MOST 1048576: true; the input reads as it did. -/
def fnNewAlterPartitionAssignmentsRequestUptoRow : OpenClaim := { program := "ytaihhpnfelobjaa", sum := "661831ff2a6d9b8593eb06370bf8860100c9fffbb2d397576d1796decb7b5d76", func := "pub-kmsg/laws.FnNewAlterPartitionAssignmentsRequest", spec := "fnNewAlterPartitionAssignmentsRequest", inPlace := ["internal/reflectlite.ValueOf", "internal/reflectlite.Swapper", "(internal/reflectlite.Value).Len"], unfollowed := true, recurses := true, apart := false, narrowed := true }
def FnNewAlterPartitionAssignmentsRequestUptoSaid : Prop := fnNewAlterPartitionAssignmentsRequestUptoRow.holds Try.pinned (OpenSpec.upto fnNewAlterPartitionAssignmentsRequestSpec)

/-- 'laws.FnNewControllerRegistrationRequest', WHERE WHAT IT READS IS OF BULK AT MOST 1048576: true; the input reads as it did. -/
def fnNewControllerRegistrationRequestUptoRow : OpenClaim := { program := "ytaihhpnfelobjaa", sum := "661831ff2a6d9b8593eb06370bf8860100c9fffbb2d397576d1796decb7b5d76", func := "pub-kmsg/laws.FnNewControllerRegistrationRequest", spec := "fnNewControllerRegistrationRequest", inPlace := ["internal/reflectlite.ValueOf", "internal/reflectlite.Swapper", "(internal/reflectlite.Value).Len"], unfollowed := true, recurses := true, apart := false, narrowed := true }
def FnNewControllerRegistrationRequestUptoSaid : Prop := fnNewControllerRegistrationRequestUptoRow.holds Try.pinned (OpenSpec.upto fnNewControllerRegistrationRequestSpec)

/-- 'laws.FnNewShareAcknowledgeResponse', WHERE WHAT IT READS IS OF BULK AT MOST 1048576: true; the input reads as it did. -/
def fnNewShareAcknowledgeResponseUptoRow : OpenClaim := { program := "ytaihhpnfelobjaa", sum := "661831ff2a6d9b8593eb06370bf8860100c9fffbb2d397576d1796decb7b5d76", func := "pub-kmsg/laws.FnNewShareAcknowledgeResponse", spec := "fnNewShareAcknowledgeResponse", inPlace := ["internal/reflectlite.ValueOf", "internal/reflectlite.Swapper", "(internal/reflectlite.Value).Len"], unfollowed := true, recurses := true, apart := false, narrowed := true }
def FnNewShareAcknowledgeResponseUptoSaid : Prop := fnNewShareAcknowledgeResponseUptoRow.holds Try.pinned (OpenSpec.upto fnNewShareAcknowledgeResponseSpec)

/-- 'laws.FnNewMetadataResponse', WHERE WHAT IT READS IS OF BULK AT MOST 1048576: true; the input reads as it did. -/
def fnNewMetadataResponseUptoRow : OpenClaim := { program := "ytaihhpnfelobjaa", sum := "661831ff2a6d9b8593eb06370bf8860100c9fffbb2d397576d1796decb7b5d76", func := "pub-kmsg/laws.FnNewMetadataResponse", spec := "fnNewMetadataResponse", inPlace := ["internal/reflectlite.ValueOf", "internal/reflectlite.Swapper", "(internal/reflectlite.Value).Len"], unfollowed := true, recurses := true, apart := false, narrowed := true }
def FnNewMetadataResponseUptoSaid : Prop := fnNewMetadataResponseUptoRow.holds Try.pinned (OpenSpec.upto fnNewMetadataResponseSpec)

end Rows
end Go.Proofs.Ytaihhpnfelobjaa
