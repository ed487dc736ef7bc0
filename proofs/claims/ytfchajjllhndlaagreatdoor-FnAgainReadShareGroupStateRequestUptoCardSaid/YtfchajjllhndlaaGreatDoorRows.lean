/-
  NARROWER THAN 'FOR EVERY INPUT', by the rows' own cells (each row's printed sentence says how): FnCutDescribeDelegationTokenRequest: loops, laid · FnCutListGroupsRequest: loops, laid · FnCutAlterReplicaLogDirsRequest: loops, laid · FnCutCreateDelegationTokenRequest: loops, laid · FnAgainDeleteGroupsResponse: loops, laid · FnAgainGetTelemetrySubscriptionsResponse: loops, laid · FnAgainLeaveGroupRequest: loops, laid · FnAgainReadShareGroupStateRequest: loops, laid.
  DERIVED. THE GIVEN ROWS OF THIS SEAT. 8 by the template 'for every input the law returns true; each argument reads behind the call as it read before'; 0 by the template 'total and deterministic' (their statements: YtfchajjllhndlaaGreatDoorTotals.lean).
  GIVEN WITH THE SEED: the statements are not yours to turn. If you find one false, say at which input.
  Laid BY PROGRAM, IN A SANDBOX (cutbox-rows.mjs): the forced cells as the released guide's own fill.sh prints them over the translation 8121ccefea1f8455… (all of the seat's roots in one cut). By AI agents, Wed Nov 11 2026. No macro, syntax, notation, axiom, sorry.
-/
import Derived.Test.YtfchajjllhndlaaGreatDoorChecked
import GoSem.Claim
import GoSem.ClaimJoined
import GoSem.ClaimMapViews
import Derived.JoinedTies
import Derived.KernelRfl
namespace Go.Proofs.YtfchajjllhndlaaGreatDoor
/- THE CELL 'sum', in the pinned program and in every row, IS THE sha256 OF THE DUMP (.gsa) THAT YtfchajjllhndlaaGreatDoorProg.lean LOADS. Nothing in Lean hashes anything: it is a label: what it is worth is what the hold of that sum in a sandbox is worth. -/
noncomputable def Tryz.pinned : Pinned := { name := "ytfchajjllhndlaagreatdoor", sum := "8121ccefea1f84552393ab43a2d218c788f0008c42f42f114530b9a26603b66e", checked := Tryz.checked }
namespace Rows
def none {H : Type} : Left H := { results := [], args := [] }

/- WHAT THE LISTED PACKAGE-LEVEL VARIABLES READ AS WHEN THE CALL BEGINS. Each datum BY PROGRAM (the guide's laid-datum.mjs) off the statement by which the dump's own 'gosem.cut.vars' lays the variable. In a bare row this is a premise. The card (YtfchajjllhndlaaGreatDoorCards.lean) ties it to the program's text. -/
def laid_pub_kmsg_pub_kmsg_inner_kbin_ErrNotEnoughData {H : Type} : DataW H := .iface "*errors.errorString" (.ptr (.agg [.lit (.string [114, 101, 115, 112, 111, 110, 115, 101, 32, 100, 105, 100, 32, 110, 111, 116, 32, 99, 111, 110, 116, 97, 105, 110, 32, 101, 110, 111, 117, 103, 104, 32, 100, 97, 116, 97, 32, 116, 111, 32, 98, 101, 32, 118, 97, 108, 105, 100])]))

/-- 'laws.FnCutDescribeDelegationTokenRequest': WHATEVER THE INPUT: true; the input reads as it did. -/
def fnCutDescribeDelegationTokenRequestSpec : ChangeSpec := { name := "fnCutDescribeDelegationTokenRequest", fn := fun _ => fun
  | [d1, d2, d3] => { results := [.lit (.bool true)], args := [d1, d2, d3] }
  | _ => none }
def fnCutDescribeDelegationTokenRequestRow : OpenClaim := { program := "ytfchajjllhndlaagreatdoor", sum := "8121ccefea1f84552393ab43a2d218c788f0008c42f42f114530b9a26603b66e", func := "pub-kmsg/laws.FnCutDescribeDelegationTokenRequest", spec := "fnCutDescribeDelegationTokenRequest", inPlace := ["internal/reflectlite.ValueOf", "internal/reflectlite.Swapper", "(internal/reflectlite.Value).Len"], unfollowed := true, recurses := true, named := ["encoding/binary.BigEndian", "pub-kmsg/pub/kmsg/inner/kbin.ErrNotEnoughData"], loops := true, apart := false, laid := [("pub-kmsg/pub/kmsg/inner/kbin.ErrNotEnoughData", laid_pub_kmsg_pub_kmsg_inner_kbin_ErrNotEnoughData)] }
def FnCutDescribeDelegationTokenRequestSaid : Prop := fnCutDescribeDelegationTokenRequestRow.holds Tryz.pinned (OpenSpec.ofChange fnCutDescribeDelegationTokenRequestSpec)

/-- ITS FALSE NEIGHBOUR: 'it returns false'. Refute it at one input. -/
def fnCutDescribeDelegationTokenRequestWrong : ChangeSpec := { name := "fnCutDescribeDelegationTokenRequest", fn := fun _ => fun
  | [d1, d2, d3] => { results := [.lit (.bool false)], args := [d1, d2, d3] }
  | _ => none }
def FnCutDescribeDelegationTokenRequestWrongFalsely : Prop := fnCutDescribeDelegationTokenRequestRow.holds Tryz.pinned (OpenSpec.ofChange fnCutDescribeDelegationTokenRequestWrong)

/-- 'laws.FnCutListGroupsRequest': WHATEVER THE INPUT: true; the input reads as it did. -/
def fnCutListGroupsRequestSpec : ChangeSpec := { name := "fnCutListGroupsRequest", fn := fun _ => fun
  | [d1, d2, d3] => { results := [.lit (.bool true)], args := [d1, d2, d3] }
  | _ => none }
def fnCutListGroupsRequestRow : OpenClaim := { program := "ytfchajjllhndlaagreatdoor", sum := "8121ccefea1f84552393ab43a2d218c788f0008c42f42f114530b9a26603b66e", func := "pub-kmsg/laws.FnCutListGroupsRequest", spec := "fnCutListGroupsRequest", inPlace := ["internal/reflectlite.ValueOf", "internal/reflectlite.Swapper", "(internal/reflectlite.Value).Len"], unfollowed := true, recurses := true, named := ["encoding/binary.BigEndian", "pub-kmsg/pub/kmsg/inner/kbin.ErrNotEnoughData"], loops := true, apart := false, laid := [("pub-kmsg/pub/kmsg/inner/kbin.ErrNotEnoughData", laid_pub_kmsg_pub_kmsg_inner_kbin_ErrNotEnoughData)] }
def FnCutListGroupsRequestSaid : Prop := fnCutListGroupsRequestRow.holds Tryz.pinned (OpenSpec.ofChange fnCutListGroupsRequestSpec)

/-- ITS FALSE NEIGHBOUR: 'it returns false'. Refute it at one input. -/
def fnCutListGroupsRequestWrong : ChangeSpec := { name := "fnCutListGroupsRequest", fn := fun _ => fun
  | [d1, d2, d3] => { results := [.lit (.bool false)], args := [d1, d2, d3] }
  | _ => none }
def FnCutListGroupsRequestWrongFalsely : Prop := fnCutListGroupsRequestRow.holds Tryz.pinned (OpenSpec.ofChange fnCutListGroupsRequestWrong)

/-- 'laws.FnCutAlterReplicaLogDirsRequest': WHATEVER THE INPUT: true; the input reads as it did. -/
def fnCutAlterReplicaLogDirsRequestSpec : ChangeSpec := { name := "fnCutAlterReplicaLogDirsRequest", fn := fun _ => fun
  | [d1, d2, d3] => { results := [.lit (.bool true)], args := [d1, d2, d3] }
  | _ => none }
def fnCutAlterReplicaLogDirsRequestRow : OpenClaim := { program := "ytfchajjllhndlaagreatdoor", sum := "8121ccefea1f84552393ab43a2d218c788f0008c42f42f114530b9a26603b66e", func := "pub-kmsg/laws.FnCutAlterReplicaLogDirsRequest", spec := "fnCutAlterReplicaLogDirsRequest", inPlace := ["internal/reflectlite.ValueOf", "internal/reflectlite.Swapper", "(internal/reflectlite.Value).Len"], unfollowed := true, recurses := true, named := ["encoding/binary.BigEndian", "pub-kmsg/pub/kmsg/inner/kbin.ErrNotEnoughData"], loops := true, apart := false, laid := [("pub-kmsg/pub/kmsg/inner/kbin.ErrNotEnoughData", laid_pub_kmsg_pub_kmsg_inner_kbin_ErrNotEnoughData)] }
def FnCutAlterReplicaLogDirsRequestSaid : Prop := fnCutAlterReplicaLogDirsRequestRow.holds Tryz.pinned (OpenSpec.ofChange fnCutAlterReplicaLogDirsRequestSpec)

/-- ITS FALSE NEIGHBOUR: 'it returns false'. Refute it at one input. -/
def fnCutAlterReplicaLogDirsRequestWrong : ChangeSpec := { name := "fnCutAlterReplicaLogDirsRequest", fn := fun _ => fun
  | [d1, d2, d3] => { results := [.lit (.bool false)], args := [d1, d2, d3] }
  | _ => none }
def FnCutAlterReplicaLogDirsRequestWrongFalsely : Prop := fnCutAlterReplicaLogDirsRequestRow.holds Tryz.pinned (OpenSpec.ofChange fnCutAlterReplicaLogDirsRequestWrong)

/-- 'laws.FnCutCreateDelegationTokenRequest': WHATEVER THE INPUT: true; the input reads as it did. -/
def fnCutCreateDelegationTokenRequestSpec : ChangeSpec := { name := "fnCutCreateDelegationTokenRequest", fn := fun _ => fun
  | [d1, d2, d3] => { results := [.lit (.bool true)], args := [d1, d2, d3] }
  | _ => none }
def fnCutCreateDelegationTokenRequestRow : OpenClaim := { program := "ytfchajjllhndlaagreatdoor", sum := "8121ccefea1f84552393ab43a2d218c788f0008c42f42f114530b9a26603b66e", func := "pub-kmsg/laws.FnCutCreateDelegationTokenRequest", spec := "fnCutCreateDelegationTokenRequest", inPlace := ["internal/reflectlite.ValueOf", "internal/reflectlite.Swapper", "(internal/reflectlite.Value).Len"], unfollowed := true, recurses := true, named := ["encoding/binary.BigEndian", "pub-kmsg/pub/kmsg/inner/kbin.ErrNotEnoughData"], loops := true, apart := false, laid := [("pub-kmsg/pub/kmsg/inner/kbin.ErrNotEnoughData", laid_pub_kmsg_pub_kmsg_inner_kbin_ErrNotEnoughData)] }
def FnCutCreateDelegationTokenRequestSaid : Prop := fnCutCreateDelegationTokenRequestRow.holds Tryz.pinned (OpenSpec.ofChange fnCutCreateDelegationTokenRequestSpec)

/-- ITS FALSE NEIGHBOUR: 'it returns false'. Refute it at one input. -/
def fnCutCreateDelegationTokenRequestWrong : ChangeSpec := { name := "fnCutCreateDelegationTokenRequest", fn := fun _ => fun
  | [d1, d2, d3] => { results := [.lit (.bool false)], args := [d1, d2, d3] }
  | _ => none }
def FnCutCreateDelegationTokenRequestWrongFalsely : Prop := fnCutCreateDelegationTokenRequestRow.holds Tryz.pinned (OpenSpec.ofChange fnCutCreateDelegationTokenRequestWrong)

/-- 'laws.FnAgainDeleteGroupsResponse': WHATEVER THE INPUT: true; the input reads as it did. -/
def fnAgainDeleteGroupsResponseSpec : ChangeSpec := { name := "fnAgainDeleteGroupsResponse", fn := fun _ => fun
  | [d1, d2] => { results := [.lit (.bool true)], args := [d1, d2] }
  | _ => none }
def fnAgainDeleteGroupsResponseRow : OpenClaim := { program := "ytfchajjllhndlaagreatdoor", sum := "8121ccefea1f84552393ab43a2d218c788f0008c42f42f114530b9a26603b66e", func := "pub-kmsg/laws.FnAgainDeleteGroupsResponse", spec := "fnAgainDeleteGroupsResponse", inPlace := ["internal/reflectlite.ValueOf", "internal/reflectlite.Swapper", "(internal/reflectlite.Value).Len"], unfollowed := true, recurses := true, named := ["encoding/binary.BigEndian", "pub-kmsg/pub/kmsg/inner/kbin.ErrNotEnoughData"], loops := true, apart := false, laid := [("pub-kmsg/pub/kmsg/inner/kbin.ErrNotEnoughData", laid_pub_kmsg_pub_kmsg_inner_kbin_ErrNotEnoughData)] }
def FnAgainDeleteGroupsResponseSaid : Prop := fnAgainDeleteGroupsResponseRow.holds Tryz.pinned (OpenSpec.ofChange fnAgainDeleteGroupsResponseSpec)

/-- ITS FALSE NEIGHBOUR: 'it returns false'. Refute it at one input. -/
def fnAgainDeleteGroupsResponseWrong : ChangeSpec := { name := "fnAgainDeleteGroupsResponse", fn := fun _ => fun
  | [d1, d2] => { results := [.lit (.bool false)], args := [d1, d2] }
  | _ => none }
def FnAgainDeleteGroupsResponseWrongFalsely : Prop := fnAgainDeleteGroupsResponseRow.holds Tryz.pinned (OpenSpec.ofChange fnAgainDeleteGroupsResponseWrong)

/-- 'laws.FnAgainGetTelemetrySubscriptionsResponse': WHATEVER THE INPUT: true; the input reads as it did. -/
def fnAgainGetTelemetrySubscriptionsResponseSpec : ChangeSpec := { name := "fnAgainGetTelemetrySubscriptionsResponse", fn := fun _ => fun
  | [d1, d2] => { results := [.lit (.bool true)], args := [d1, d2] }
  | _ => none }
def fnAgainGetTelemetrySubscriptionsResponseRow : OpenClaim := { program := "ytfchajjllhndlaagreatdoor", sum := "8121ccefea1f84552393ab43a2d218c788f0008c42f42f114530b9a26603b66e", func := "pub-kmsg/laws.FnAgainGetTelemetrySubscriptionsResponse", spec := "fnAgainGetTelemetrySubscriptionsResponse", inPlace := ["internal/reflectlite.ValueOf", "internal/reflectlite.Swapper", "(internal/reflectlite.Value).Len"], unfollowed := true, recurses := true, named := ["encoding/binary.BigEndian", "pub-kmsg/pub/kmsg/inner/kbin.ErrNotEnoughData"], loops := true, apart := false, laid := [("pub-kmsg/pub/kmsg/inner/kbin.ErrNotEnoughData", laid_pub_kmsg_pub_kmsg_inner_kbin_ErrNotEnoughData)] }
def FnAgainGetTelemetrySubscriptionsResponseSaid : Prop := fnAgainGetTelemetrySubscriptionsResponseRow.holds Tryz.pinned (OpenSpec.ofChange fnAgainGetTelemetrySubscriptionsResponseSpec)

/-- ITS FALSE NEIGHBOUR: 'it returns false'. Refute it at one input. -/
def fnAgainGetTelemetrySubscriptionsResponseWrong : ChangeSpec := { name := "fnAgainGetTelemetrySubscriptionsResponse", fn := fun _ => fun
  | [d1, d2] => { results := [.lit (.bool false)], args := [d1, d2] }
  | _ => none }
def FnAgainGetTelemetrySubscriptionsResponseWrongFalsely : Prop := fnAgainGetTelemetrySubscriptionsResponseRow.holds Tryz.pinned (OpenSpec.ofChange fnAgainGetTelemetrySubscriptionsResponseWrong)

/-- 'laws.FnAgainLeaveGroupRequest': WHATEVER THE INPUT: true; the input reads as it did. -/
def fnAgainLeaveGroupRequestSpec : ChangeSpec := { name := "fnAgainLeaveGroupRequest", fn := fun _ => fun
  | [d1, d2] => { results := [.lit (.bool true)], args := [d1, d2] }
  | _ => none }
def fnAgainLeaveGroupRequestRow : OpenClaim := { program := "ytfchajjllhndlaagreatdoor", sum := "8121ccefea1f84552393ab43a2d218c788f0008c42f42f114530b9a26603b66e", func := "pub-kmsg/laws.FnAgainLeaveGroupRequest", spec := "fnAgainLeaveGroupRequest", inPlace := ["internal/reflectlite.ValueOf", "internal/reflectlite.Swapper", "(internal/reflectlite.Value).Len"], unfollowed := true, recurses := true, named := ["encoding/binary.BigEndian", "pub-kmsg/pub/kmsg/inner/kbin.ErrNotEnoughData"], loops := true, apart := false, laid := [("pub-kmsg/pub/kmsg/inner/kbin.ErrNotEnoughData", laid_pub_kmsg_pub_kmsg_inner_kbin_ErrNotEnoughData)] }
def FnAgainLeaveGroupRequestSaid : Prop := fnAgainLeaveGroupRequestRow.holds Tryz.pinned (OpenSpec.ofChange fnAgainLeaveGroupRequestSpec)

/-- ITS FALSE NEIGHBOUR: 'it returns false'. Refute it at one input. -/
def fnAgainLeaveGroupRequestWrong : ChangeSpec := { name := "fnAgainLeaveGroupRequest", fn := fun _ => fun
  | [d1, d2] => { results := [.lit (.bool false)], args := [d1, d2] }
  | _ => none }
def FnAgainLeaveGroupRequestWrongFalsely : Prop := fnAgainLeaveGroupRequestRow.holds Tryz.pinned (OpenSpec.ofChange fnAgainLeaveGroupRequestWrong)

/-- 'laws.FnAgainReadShareGroupStateRequest': WHATEVER THE INPUT: true; the input reads as it did. -/
def fnAgainReadShareGroupStateRequestSpec : ChangeSpec := { name := "fnAgainReadShareGroupStateRequest", fn := fun _ => fun
  | [d1, d2] => { results := [.lit (.bool true)], args := [d1, d2] }
  | _ => none }
def fnAgainReadShareGroupStateRequestRow : OpenClaim := { program := "ytfchajjllhndlaagreatdoor", sum := "8121ccefea1f84552393ab43a2d218c788f0008c42f42f114530b9a26603b66e", func := "pub-kmsg/laws.FnAgainReadShareGroupStateRequest", spec := "fnAgainReadShareGroupStateRequest", inPlace := ["internal/reflectlite.ValueOf", "internal/reflectlite.Swapper", "(internal/reflectlite.Value).Len"], unfollowed := true, recurses := true, named := ["encoding/binary.BigEndian", "pub-kmsg/pub/kmsg/inner/kbin.ErrNotEnoughData"], loops := true, apart := false, laid := [("pub-kmsg/pub/kmsg/inner/kbin.ErrNotEnoughData", laid_pub_kmsg_pub_kmsg_inner_kbin_ErrNotEnoughData)] }
def FnAgainReadShareGroupStateRequestSaid : Prop := fnAgainReadShareGroupStateRequestRow.holds Tryz.pinned (OpenSpec.ofChange fnAgainReadShareGroupStateRequestSpec)

/-- ITS FALSE NEIGHBOUR: 'it returns false'. Refute it at one input. -/
def fnAgainReadShareGroupStateRequestWrong : ChangeSpec := { name := "fnAgainReadShareGroupStateRequest", fn := fun _ => fun
  | [d1, d2] => { results := [.lit (.bool false)], args := [d1, d2] }
  | _ => none }
def FnAgainReadShareGroupStateRequestWrongFalsely : Prop := fnAgainReadShareGroupStateRequestRow.holds Tryz.pinned (OpenSpec.ofChange fnAgainReadShareGroupStateRequestWrong)

/- THE SECOND FORM. 'bulk': how many values and letters a reading holds, each counted each time it is reached (what is shared counts as often as it is met; a slice's spare places count too). A statement '..UptoSaid' is the law's where the arguments, and the package variables that the reading takes, are together of bulk at most 1048576: NARROWER than '..Said'. Prove '..Said' where nothing that the law and all that it calls make is longer than what came in: it says more and counts as full. Else prove '..UptoSaid'. A law counts once. -/
mutual
def uptoBulk {H : Type} : DataW H → Nat
  | .lit (.string bytes) => bytes.length + 1
  | .lit _ => 1
  | .nil => 1
  | .ptr d => uptoBulk d + 1
  | .slice elems spare => uptoBulkAll elems + uptoBulkAll spare + 1
  | .agg parts => uptoBulkAll parts + 1
  | .iface _ d => uptoBulk d + 1
  | .map entries => uptoBulkEntries entries + 1
  | .held _ => 1
def uptoBulkAll {H : Type} : List (DataW H) → Nat
  | [] => 0
  | d :: r => uptoBulk d + uptoBulkAll r
def uptoBulkEntries {H : Type} : List (Lit × DataW H) → Nat
  | [] => 0
  | x :: r => uptoBulkEntry x + uptoBulkEntries r
def uptoBulkEntry {H : Type} : Lit × DataW H → Nat
  | (.string bytes, d) => bytes.length + uptoBulk d + 1
  | (_, d) => uptoBulk d + 1
 end
def uptoSmall : (H : Type) → List (DataW H) → Bool := fun _ ds => decide (uptoBulkAll ds ≤ 1048576)
def OpenSpec.upto (s : _root_.Go.ChangeSpec) : _root_.Go.OpenSpec := { _root_.Go.OpenSpec.ofChange s with cond := some uptoSmall }

/-- 'laws.FnCutDescribeDelegationTokenRequest', WHERE WHAT IT READS IS OF BULK AT MOST 1048576: true; the input reads as it did. -/
def fnCutDescribeDelegationTokenRequestUptoRow : OpenClaim := { program := "ytfchajjllhndlaagreatdoor", sum := "8121ccefea1f84552393ab43a2d218c788f0008c42f42f114530b9a26603b66e", func := "pub-kmsg/laws.FnCutDescribeDelegationTokenRequest", spec := "fnCutDescribeDelegationTokenRequest", inPlace := ["internal/reflectlite.ValueOf", "internal/reflectlite.Swapper", "(internal/reflectlite.Value).Len"], unfollowed := true, recurses := true, named := ["encoding/binary.BigEndian", "pub-kmsg/pub/kmsg/inner/kbin.ErrNotEnoughData"], loops := true, apart := false, laid := [("pub-kmsg/pub/kmsg/inner/kbin.ErrNotEnoughData", laid_pub_kmsg_pub_kmsg_inner_kbin_ErrNotEnoughData)], narrowed := true }
def FnCutDescribeDelegationTokenRequestUptoSaid : Prop := fnCutDescribeDelegationTokenRequestUptoRow.holds Tryz.pinned (OpenSpec.upto fnCutDescribeDelegationTokenRequestSpec)

/-- 'laws.FnCutListGroupsRequest', WHERE WHAT IT READS IS OF BULK AT MOST 1048576: true; the input reads as it did. -/
def fnCutListGroupsRequestUptoRow : OpenClaim := { program := "ytfchajjllhndlaagreatdoor", sum := "8121ccefea1f84552393ab43a2d218c788f0008c42f42f114530b9a26603b66e", func := "pub-kmsg/laws.FnCutListGroupsRequest", spec := "fnCutListGroupsRequest", inPlace := ["internal/reflectlite.ValueOf", "internal/reflectlite.Swapper", "(internal/reflectlite.Value).Len"], unfollowed := true, recurses := true, named := ["encoding/binary.BigEndian", "pub-kmsg/pub/kmsg/inner/kbin.ErrNotEnoughData"], loops := true, apart := false, laid := [("pub-kmsg/pub/kmsg/inner/kbin.ErrNotEnoughData", laid_pub_kmsg_pub_kmsg_inner_kbin_ErrNotEnoughData)], narrowed := true }
def FnCutListGroupsRequestUptoSaid : Prop := fnCutListGroupsRequestUptoRow.holds Tryz.pinned (OpenSpec.upto fnCutListGroupsRequestSpec)

/-- 'laws.FnCutAlterReplicaLogDirsRequest', WHERE WHAT IT READS IS OF BULK AT MOST 1048576: true; the input reads as it did. -/
def fnCutAlterReplicaLogDirsRequestUptoRow : OpenClaim := { program := "ytfchajjllhndlaagreatdoor", sum := "8121ccefea1f84552393ab43a2d218c788f0008c42f42f114530b9a26603b66e", func := "pub-kmsg/laws.FnCutAlterReplicaLogDirsRequest", spec := "fnCutAlterReplicaLogDirsRequest", inPlace := ["internal/reflectlite.ValueOf", "internal/reflectlite.Swapper", "(internal/reflectlite.Value).Len"], unfollowed := true, recurses := true, named := ["encoding/binary.BigEndian", "pub-kmsg/pub/kmsg/inner/kbin.ErrNotEnoughData"], loops := true, apart := false, laid := [("pub-kmsg/pub/kmsg/inner/kbin.ErrNotEnoughData", laid_pub_kmsg_pub_kmsg_inner_kbin_ErrNotEnoughData)], narrowed := true }
def FnCutAlterReplicaLogDirsRequestUptoSaid : Prop := fnCutAlterReplicaLogDirsRequestUptoRow.holds Tryz.pinned (OpenSpec.upto fnCutAlterReplicaLogDirsRequestSpec)

/-- 'laws.FnCutCreateDelegationTokenRequest', WHERE WHAT IT READS IS OF BULK AT MOST 1048576: true; the input reads as it did. -/
def fnCutCreateDelegationTokenRequestUptoRow : OpenClaim := { program := "ytfchajjllhndlaagreatdoor", sum := "8121ccefea1f84552393ab43a2d218c788f0008c42f42f114530b9a26603b66e", func := "pub-kmsg/laws.FnCutCreateDelegationTokenRequest", spec := "fnCutCreateDelegationTokenRequest", inPlace := ["internal/reflectlite.ValueOf", "internal/reflectlite.Swapper", "(internal/reflectlite.Value).Len"], unfollowed := true, recurses := true, named := ["encoding/binary.BigEndian", "pub-kmsg/pub/kmsg/inner/kbin.ErrNotEnoughData"], loops := true, apart := false, laid := [("pub-kmsg/pub/kmsg/inner/kbin.ErrNotEnoughData", laid_pub_kmsg_pub_kmsg_inner_kbin_ErrNotEnoughData)], narrowed := true }
def FnCutCreateDelegationTokenRequestUptoSaid : Prop := fnCutCreateDelegationTokenRequestUptoRow.holds Tryz.pinned (OpenSpec.upto fnCutCreateDelegationTokenRequestSpec)

/-- 'laws.FnAgainDeleteGroupsResponse', WHERE WHAT IT READS IS OF BULK AT MOST 1048576: true; the input reads as it did. -/
def fnAgainDeleteGroupsResponseUptoRow : OpenClaim := { program := "ytfchajjllhndlaagreatdoor", sum := "8121ccefea1f84552393ab43a2d218c788f0008c42f42f114530b9a26603b66e", func := "pub-kmsg/laws.FnAgainDeleteGroupsResponse", spec := "fnAgainDeleteGroupsResponse", inPlace := ["internal/reflectlite.ValueOf", "internal/reflectlite.Swapper", "(internal/reflectlite.Value).Len"], unfollowed := true, recurses := true, named := ["encoding/binary.BigEndian", "pub-kmsg/pub/kmsg/inner/kbin.ErrNotEnoughData"], loops := true, apart := false, laid := [("pub-kmsg/pub/kmsg/inner/kbin.ErrNotEnoughData", laid_pub_kmsg_pub_kmsg_inner_kbin_ErrNotEnoughData)], narrowed := true }
def FnAgainDeleteGroupsResponseUptoSaid : Prop := fnAgainDeleteGroupsResponseUptoRow.holds Tryz.pinned (OpenSpec.upto fnAgainDeleteGroupsResponseSpec)

/-- 'laws.FnAgainGetTelemetrySubscriptionsResponse', WHERE WHAT IT READS IS OF BULK AT MOST 1048576: true; the input reads as it did. -/
def fnAgainGetTelemetrySubscriptionsResponseUptoRow : OpenClaim := { program := "ytfchajjllhndlaagreatdoor", sum := "8121ccefea1f84552393ab43a2d218c788f0008c42f42f114530b9a26603b66e", func := "pub-kmsg/laws.FnAgainGetTelemetrySubscriptionsResponse", spec := "fnAgainGetTelemetrySubscriptionsResponse", inPlace := ["internal/reflectlite.ValueOf", "internal/reflectlite.Swapper", "(internal/reflectlite.Value).Len"], unfollowed := true, recurses := true, named := ["encoding/binary.BigEndian", "pub-kmsg/pub/kmsg/inner/kbin.ErrNotEnoughData"], loops := true, apart := false, laid := [("pub-kmsg/pub/kmsg/inner/kbin.ErrNotEnoughData", laid_pub_kmsg_pub_kmsg_inner_kbin_ErrNotEnoughData)], narrowed := true }
def FnAgainGetTelemetrySubscriptionsResponseUptoSaid : Prop := fnAgainGetTelemetrySubscriptionsResponseUptoRow.holds Tryz.pinned (OpenSpec.upto fnAgainGetTelemetrySubscriptionsResponseSpec)

/-- 'laws.FnAgainLeaveGroupRequest', WHERE WHAT IT READS IS OF BULK AT MOST 1048576: true; the input reads as it did. -/
def fnAgainLeaveGroupRequestUptoRow : OpenClaim := { program := "ytfchajjllhndlaagreatdoor", sum := "8121ccefea1f84552393ab43a2d218c788f0008c42f42f114530b9a26603b66e", func := "pub-kmsg/laws.FnAgainLeaveGroupRequest", spec := "fnAgainLeaveGroupRequest", inPlace := ["internal/reflectlite.ValueOf", "internal/reflectlite.Swapper", "(internal/reflectlite.Value).Len"], unfollowed := true, recurses := true, named := ["encoding/binary.BigEndian", "pub-kmsg/pub/kmsg/inner/kbin.ErrNotEnoughData"], loops := true, apart := false, laid := [("pub-kmsg/pub/kmsg/inner/kbin.ErrNotEnoughData", laid_pub_kmsg_pub_kmsg_inner_kbin_ErrNotEnoughData)], narrowed := true }
def FnAgainLeaveGroupRequestUptoSaid : Prop := fnAgainLeaveGroupRequestUptoRow.holds Tryz.pinned (OpenSpec.upto fnAgainLeaveGroupRequestSpec)

/-- 'laws.FnAgainReadShareGroupStateRequest', WHERE WHAT IT READS IS OF BULK AT MOST 1048576: true; the input reads as it did. -/
def fnAgainReadShareGroupStateRequestUptoRow : OpenClaim := { program := "ytfchajjllhndlaagreatdoor", sum := "8121ccefea1f84552393ab43a2d218c788f0008c42f42f114530b9a26603b66e", func := "pub-kmsg/laws.FnAgainReadShareGroupStateRequest", spec := "fnAgainReadShareGroupStateRequest", inPlace := ["internal/reflectlite.ValueOf", "internal/reflectlite.Swapper", "(internal/reflectlite.Value).Len"], unfollowed := true, recurses := true, named := ["encoding/binary.BigEndian", "pub-kmsg/pub/kmsg/inner/kbin.ErrNotEnoughData"], loops := true, apart := false, laid := [("pub-kmsg/pub/kmsg/inner/kbin.ErrNotEnoughData", laid_pub_kmsg_pub_kmsg_inner_kbin_ErrNotEnoughData)], narrowed := true }
def FnAgainReadShareGroupStateRequestUptoSaid : Prop := fnAgainReadShareGroupStateRequestUptoRow.holds Tryz.pinned (OpenSpec.upto fnAgainReadShareGroupStateRequestSpec)

end Rows
end Go.Proofs.YtfchajjllhndlaaGreatDoor
