/-
  NARROWER THAN 'FOR EVERY INPUT', by the rows' own cells (each row's printed sentence says how): FnAnyUnregisterControllerRequest: laid · FnAnyDescribeLogDirsRequest: laid · FnAnyInitializeShareGroupStateResponse: laid · FnAnyDeleteTopicsResponse: laid · FnAnyCreateTopicsRequest: laid · FnAnyFetchSnapshotRequest: laid.
  DERIVED. THE GIVEN ROWS OF THIS SEAT. 6 by the template 'for every input the law returns true; each argument reads behind the call as it read before'; 0 by the template 'total and deterministic' (their statements: YtellhjpdpaeieaaDoorTotals.lean).
  GIVEN WITH THE SEED: the statements are not yours to turn. If you find one false, say at which input.
  Laid BY PROGRAM, IN A SANDBOX (cutbox-rows.mjs): the forced cells as the released guide's own fill.sh prints them over the translation 3f8dff4b803d3477… (all of the seat's roots in one cut). By AI agents, Wed Nov 11 2026. No macro, syntax, notation, axiom, sorry.
-/
import Derived.Test.YtellhjpdpaeieaaDoorChecked
import GoSem.Claim
import GoSem.ClaimJoined
import GoSem.ClaimMapViews
import Derived.JoinedTies
import Derived.KernelRfl
namespace Go.Proofs.YtellhjpdpaeieaaDoor
/- THE CELL 'sum', in the pinned program and in every row, IS THE sha256 OF THE DUMP (.gsa) THAT YtellhjpdpaeieaaDoorProg.lean LOADS. Nothing in Lean hashes anything: it is a label: what it is worth is what the hold of that sum in a sandbox is worth. -/
noncomputable def Tryd.pinned : Pinned := { name := "ytellhjpdpaeieaadoor", sum := "3f8dff4b803d3477a29e65789df3540397ecfec7f15e7b6e1629dc3508acc251", checked := Tryd.checked }
namespace Rows
def none {H : Type} : Left H := { results := [], args := [] }

/- WHAT THE LISTED PACKAGE-LEVEL VARIABLES READ AS WHEN THE CALL BEGINS. Each datum BY PROGRAM (the guide's laid-datum.mjs) off the statement by which the dump's own 'gosem.cut.vars' lays the variable. In a bare row this is a premise. The card (YtellhjpdpaeieaaDoorCards.lean) ties it to the program's text. -/
def laid_pub_kmsg_pub_kmsg_inner_kbin_ErrNotEnoughData {H : Type} : DataW H := .iface "*errors.errorString" (.ptr (.agg [.lit (.string [114, 101, 115, 112, 111, 110, 115, 101, 32, 100, 105, 100, 32, 110, 111, 116, 32, 99, 111, 110, 116, 97, 105, 110, 32, 101, 110, 111, 117, 103, 104, 32, 100, 97, 116, 97, 32, 116, 111, 32, 98, 101, 32, 118, 97, 108, 105, 100])]))

/-- 'laws.FnAnyUnregisterControllerRequest': WHATEVER THE INPUT: true; the input reads as it did. -/
def fnAnyUnregisterControllerRequestSpec : ChangeSpec := { name := "fnAnyUnregisterControllerRequest", fn := fun _ => fun
  | [d1, d2] => { results := [.lit (.bool true)], args := [d1, d2] }
  | _ => none }
def fnAnyUnregisterControllerRequestRow : OpenClaim := { program := "ytellhjpdpaeieaadoor", sum := "3f8dff4b803d3477a29e65789df3540397ecfec7f15e7b6e1629dc3508acc251", func := "pub-kmsg/laws.FnAnyUnregisterControllerRequest", spec := "fnAnyUnregisterControllerRequest", inPlace := ["internal/reflectlite.ValueOf", "internal/reflectlite.Swapper", "(internal/reflectlite.Value).Len"], unfollowed := true, recurses := true, named := ["encoding/binary.BigEndian", "pub-kmsg/pub/kmsg/inner/kbin.ErrNotEnoughData"], apart := false, laid := [("pub-kmsg/pub/kmsg/inner/kbin.ErrNotEnoughData", laid_pub_kmsg_pub_kmsg_inner_kbin_ErrNotEnoughData)] }
def FnAnyUnregisterControllerRequestSaid : Prop := fnAnyUnregisterControllerRequestRow.holds Tryd.pinned (OpenSpec.ofChange fnAnyUnregisterControllerRequestSpec)

/-- ITS FALSE NEIGHBOUR: 'it returns false'. Refute it at one input. -/
def fnAnyUnregisterControllerRequestWrong : ChangeSpec := { name := "fnAnyUnregisterControllerRequest", fn := fun _ => fun
  | [d1, d2] => { results := [.lit (.bool false)], args := [d1, d2] }
  | _ => none }
def FnAnyUnregisterControllerRequestWrongFalsely : Prop := fnAnyUnregisterControllerRequestRow.holds Tryd.pinned (OpenSpec.ofChange fnAnyUnregisterControllerRequestWrong)

/-- 'laws.FnAnyDescribeLogDirsRequest': WHATEVER THE INPUT: true; the input reads as it did. -/
def fnAnyDescribeLogDirsRequestSpec : ChangeSpec := { name := "fnAnyDescribeLogDirsRequest", fn := fun _ => fun
  | [d1, d2] => { results := [.lit (.bool true)], args := [d1, d2] }
  | _ => none }
def fnAnyDescribeLogDirsRequestRow : OpenClaim := { program := "ytellhjpdpaeieaadoor", sum := "3f8dff4b803d3477a29e65789df3540397ecfec7f15e7b6e1629dc3508acc251", func := "pub-kmsg/laws.FnAnyDescribeLogDirsRequest", spec := "fnAnyDescribeLogDirsRequest", inPlace := ["internal/reflectlite.ValueOf", "internal/reflectlite.Swapper", "(internal/reflectlite.Value).Len"], unfollowed := true, recurses := true, named := ["encoding/binary.BigEndian", "pub-kmsg/pub/kmsg/inner/kbin.ErrNotEnoughData"], apart := false, laid := [("pub-kmsg/pub/kmsg/inner/kbin.ErrNotEnoughData", laid_pub_kmsg_pub_kmsg_inner_kbin_ErrNotEnoughData)] }
def FnAnyDescribeLogDirsRequestSaid : Prop := fnAnyDescribeLogDirsRequestRow.holds Tryd.pinned (OpenSpec.ofChange fnAnyDescribeLogDirsRequestSpec)

/-- ITS FALSE NEIGHBOUR: 'it returns false'. Refute it at one input. -/
def fnAnyDescribeLogDirsRequestWrong : ChangeSpec := { name := "fnAnyDescribeLogDirsRequest", fn := fun _ => fun
  | [d1, d2] => { results := [.lit (.bool false)], args := [d1, d2] }
  | _ => none }
def FnAnyDescribeLogDirsRequestWrongFalsely : Prop := fnAnyDescribeLogDirsRequestRow.holds Tryd.pinned (OpenSpec.ofChange fnAnyDescribeLogDirsRequestWrong)

/-- 'laws.FnAnyInitializeShareGroupStateResponse': WHATEVER THE INPUT: true; the input reads as it did. -/
def fnAnyInitializeShareGroupStateResponseSpec : ChangeSpec := { name := "fnAnyInitializeShareGroupStateResponse", fn := fun _ => fun
  | [d1, d2] => { results := [.lit (.bool true)], args := [d1, d2] }
  | _ => none }
def fnAnyInitializeShareGroupStateResponseRow : OpenClaim := { program := "ytellhjpdpaeieaadoor", sum := "3f8dff4b803d3477a29e65789df3540397ecfec7f15e7b6e1629dc3508acc251", func := "pub-kmsg/laws.FnAnyInitializeShareGroupStateResponse", spec := "fnAnyInitializeShareGroupStateResponse", inPlace := ["internal/reflectlite.ValueOf", "internal/reflectlite.Swapper", "(internal/reflectlite.Value).Len"], unfollowed := true, recurses := true, named := ["encoding/binary.BigEndian", "pub-kmsg/pub/kmsg/inner/kbin.ErrNotEnoughData"], apart := false, laid := [("pub-kmsg/pub/kmsg/inner/kbin.ErrNotEnoughData", laid_pub_kmsg_pub_kmsg_inner_kbin_ErrNotEnoughData)] }
def FnAnyInitializeShareGroupStateResponseSaid : Prop := fnAnyInitializeShareGroupStateResponseRow.holds Tryd.pinned (OpenSpec.ofChange fnAnyInitializeShareGroupStateResponseSpec)

/-- ITS FALSE NEIGHBOUR: 'it returns false'. Refute it at one input. -/
def fnAnyInitializeShareGroupStateResponseWrong : ChangeSpec := { name := "fnAnyInitializeShareGroupStateResponse", fn := fun _ => fun
  | [d1, d2] => { results := [.lit (.bool false)], args := [d1, d2] }
  | _ => none }
def FnAnyInitializeShareGroupStateResponseWrongFalsely : Prop := fnAnyInitializeShareGroupStateResponseRow.holds Tryd.pinned (OpenSpec.ofChange fnAnyInitializeShareGroupStateResponseWrong)

/-- 'laws.FnAnyDeleteTopicsResponse': WHATEVER THE INPUT: true; the input reads as it did. -/
def fnAnyDeleteTopicsResponseSpec : ChangeSpec := { name := "fnAnyDeleteTopicsResponse", fn := fun _ => fun
  | [d1, d2] => { results := [.lit (.bool true)], args := [d1, d2] }
  | _ => none }
def fnAnyDeleteTopicsResponseRow : OpenClaim := { program := "ytellhjpdpaeieaadoor", sum := "3f8dff4b803d3477a29e65789df3540397ecfec7f15e7b6e1629dc3508acc251", func := "pub-kmsg/laws.FnAnyDeleteTopicsResponse", spec := "fnAnyDeleteTopicsResponse", inPlace := ["internal/reflectlite.ValueOf", "internal/reflectlite.Swapper", "(internal/reflectlite.Value).Len"], unfollowed := true, recurses := true, named := ["encoding/binary.BigEndian", "pub-kmsg/pub/kmsg/inner/kbin.ErrNotEnoughData"], apart := false, laid := [("pub-kmsg/pub/kmsg/inner/kbin.ErrNotEnoughData", laid_pub_kmsg_pub_kmsg_inner_kbin_ErrNotEnoughData)] }
def FnAnyDeleteTopicsResponseSaid : Prop := fnAnyDeleteTopicsResponseRow.holds Tryd.pinned (OpenSpec.ofChange fnAnyDeleteTopicsResponseSpec)

/-- ITS FALSE NEIGHBOUR: 'it returns false'. Refute it at one input. -/
def fnAnyDeleteTopicsResponseWrong : ChangeSpec := { name := "fnAnyDeleteTopicsResponse", fn := fun _ => fun
  | [d1, d2] => { results := [.lit (.bool false)], args := [d1, d2] }
  | _ => none }
def FnAnyDeleteTopicsResponseWrongFalsely : Prop := fnAnyDeleteTopicsResponseRow.holds Tryd.pinned (OpenSpec.ofChange fnAnyDeleteTopicsResponseWrong)

/-- 'laws.FnAnyCreateTopicsRequest': WHATEVER THE INPUT: true; the input reads as it did. -/
def fnAnyCreateTopicsRequestSpec : ChangeSpec := { name := "fnAnyCreateTopicsRequest", fn := fun _ => fun
  | [d1, d2] => { results := [.lit (.bool true)], args := [d1, d2] }
  | _ => none }
def fnAnyCreateTopicsRequestRow : OpenClaim := { program := "ytellhjpdpaeieaadoor", sum := "3f8dff4b803d3477a29e65789df3540397ecfec7f15e7b6e1629dc3508acc251", func := "pub-kmsg/laws.FnAnyCreateTopicsRequest", spec := "fnAnyCreateTopicsRequest", inPlace := ["internal/reflectlite.ValueOf", "internal/reflectlite.Swapper", "(internal/reflectlite.Value).Len"], unfollowed := true, recurses := true, named := ["encoding/binary.BigEndian", "pub-kmsg/pub/kmsg/inner/kbin.ErrNotEnoughData"], apart := false, laid := [("pub-kmsg/pub/kmsg/inner/kbin.ErrNotEnoughData", laid_pub_kmsg_pub_kmsg_inner_kbin_ErrNotEnoughData)] }
def FnAnyCreateTopicsRequestSaid : Prop := fnAnyCreateTopicsRequestRow.holds Tryd.pinned (OpenSpec.ofChange fnAnyCreateTopicsRequestSpec)

/-- ITS FALSE NEIGHBOUR: 'it returns false'. Refute it at one input. -/
def fnAnyCreateTopicsRequestWrong : ChangeSpec := { name := "fnAnyCreateTopicsRequest", fn := fun _ => fun
  | [d1, d2] => { results := [.lit (.bool false)], args := [d1, d2] }
  | _ => none }
def FnAnyCreateTopicsRequestWrongFalsely : Prop := fnAnyCreateTopicsRequestRow.holds Tryd.pinned (OpenSpec.ofChange fnAnyCreateTopicsRequestWrong)

/-- 'laws.FnAnyFetchSnapshotRequest': WHATEVER THE INPUT: true; the input reads as it did. -/
def fnAnyFetchSnapshotRequestSpec : ChangeSpec := { name := "fnAnyFetchSnapshotRequest", fn := fun _ => fun
  | [d1, d2] => { results := [.lit (.bool true)], args := [d1, d2] }
  | _ => none }
def fnAnyFetchSnapshotRequestRow : OpenClaim := { program := "ytellhjpdpaeieaadoor", sum := "3f8dff4b803d3477a29e65789df3540397ecfec7f15e7b6e1629dc3508acc251", func := "pub-kmsg/laws.FnAnyFetchSnapshotRequest", spec := "fnAnyFetchSnapshotRequest", inPlace := ["internal/reflectlite.ValueOf", "internal/reflectlite.Swapper", "(internal/reflectlite.Value).Len"], unfollowed := true, recurses := true, named := ["encoding/binary.BigEndian", "pub-kmsg/pub/kmsg/inner/kbin.ErrNotEnoughData"], apart := false, laid := [("pub-kmsg/pub/kmsg/inner/kbin.ErrNotEnoughData", laid_pub_kmsg_pub_kmsg_inner_kbin_ErrNotEnoughData)] }
def FnAnyFetchSnapshotRequestSaid : Prop := fnAnyFetchSnapshotRequestRow.holds Tryd.pinned (OpenSpec.ofChange fnAnyFetchSnapshotRequestSpec)

/-- ITS FALSE NEIGHBOUR: 'it returns false'. Refute it at one input. -/
def fnAnyFetchSnapshotRequestWrong : ChangeSpec := { name := "fnAnyFetchSnapshotRequest", fn := fun _ => fun
  | [d1, d2] => { results := [.lit (.bool false)], args := [d1, d2] }
  | _ => none }
def FnAnyFetchSnapshotRequestWrongFalsely : Prop := fnAnyFetchSnapshotRequestRow.holds Tryd.pinned (OpenSpec.ofChange fnAnyFetchSnapshotRequestWrong)

/- THE SECOND FORM. 'bulk': how many values and letters a reading holds, each counted each time it is reached (what is shared counts as often as it is met; a slice's spare places count too). A statement '..UptoSaid' is the law's where the arguments, and the package variables that the reading takes, are together of bulk at most 1048576: NARROWER than '..Said'. Prove '..Said' where nothing that the law and all that it calls make is longer than what came in: it says more and counts as full. Else prove '..UptoSaid'. A law counts once. -/
mutual
def uptoBulk {H : Type} : DataW H → Nat
  | .lit (.string bytes) => bytes.length + 1
  | .lit _ => 1
  | .nil => 1
  | .ptr d => uptoBulk d + 1
  | .slice elems spare => uptoBulkAll elems + uptoBulkAll spare + 1
  | .agg parts => uptoBulkAll parts + 1
  | .iface _ d => uptoBulk d + 1
  | .map entries => uptoBulkEntries entries + 1
  | .held _ => 1
def uptoBulkAll {H : Type} : List (DataW H) → Nat
  | [] => 0
  | d :: r => uptoBulk d + uptoBulkAll r
def uptoBulkEntries {H : Type} : List (Lit × DataW H) → Nat
  | [] => 0
  | x :: r => uptoBulkEntry x + uptoBulkEntries r
def uptoBulkEntry {H : Type} : Lit × DataW H → Nat
  | (.string bytes, d) => bytes.length + uptoBulk d + 1
  | (_, d) => uptoBulk d + 1
 end
def uptoSmall : (H : Type) → List (DataW H) → Bool := fun _ ds => decide (uptoBulkAll ds ≤ 1048576)
def OpenSpec.upto (s : _root_.Go.ChangeSpec) : _root_.Go.OpenSpec := { _root_.Go.OpenSpec.ofChange s with cond := some uptoSmall }

/-- 'laws.FnAnyUnregisterControllerRequest', WHERE WHAT IT READS IS OF BULK AT MOST 1048576: true; the input reads as it did. -/
def fnAnyUnregisterControllerRequestUptoRow : OpenClaim := { program := "ytellhjpdpaeieaadoor", sum := "3f8dff4b803d3477a29e65789df3540397ecfec7f15e7b6e1629dc3508acc251", func := "pub-kmsg/laws.FnAnyUnregisterControllerRequest", spec := "fnAnyUnregisterControllerRequest", inPlace := ["internal/reflectlite.ValueOf", "internal/reflectlite.Swapper", "(internal/reflectlite.Value).Len"], unfollowed := true, recurses := true, named := ["encoding/binary.BigEndian", "pub-kmsg/pub/kmsg/inner/kbin.ErrNotEnoughData"], apart := false, laid := [("pub-kmsg/pub/kmsg/inner/kbin.ErrNotEnoughData", laid_pub_kmsg_pub_kmsg_inner_kbin_ErrNotEnoughData)], narrowed := true }
def FnAnyUnregisterControllerRequestUptoSaid : Prop := fnAnyUnregisterControllerRequestUptoRow.holds Tryd.pinned (OpenSpec.upto fnAnyUnregisterControllerRequestSpec)

/-- 'laws.FnAnyDescribeLogDirsRequest', WHERE WHAT IT READS IS OF BULK AT MOST 1048576: true; the input reads as it did. -/
def fnAnyDescribeLogDirsRequestUptoRow : OpenClaim := { program := "ytellhjpdpaeieaadoor", sum := "3f8dff4b803d3477a29e65789df3540397ecfec7f15e7b6e1629dc3508acc251", func := "pub-kmsg/laws.FnAnyDescribeLogDirsRequest", spec := "fnAnyDescribeLogDirsRequest", inPlace := ["internal/reflectlite.ValueOf", "internal/reflectlite.Swapper", "(internal/reflectlite.Value).Len"], unfollowed := true, recurses := true, named := ["encoding/binary.BigEndian", "pub-kmsg/pub/kmsg/inner/kbin.ErrNotEnoughData"], apart := false, laid := [("pub-kmsg/pub/kmsg/inner/kbin.ErrNotEnoughData", laid_pub_kmsg_pub_kmsg_inner_kbin_ErrNotEnoughData)], narrowed := true }
def FnAnyDescribeLogDirsRequestUptoSaid : Prop := fnAnyDescribeLogDirsRequestUptoRow.holds Tryd.pinned (OpenSpec.upto fnAnyDescribeLogDirsRequestSpec)

/-- 'laws.FnAnyInitializeShareGroupStateResponse', WHERE WHAT IT READS IS OF BULK AT MOST 1048576: true; the input reads as it did. -/
def fnAnyInitializeShareGroupStateResponseUptoRow : OpenClaim := { program := "ytellhjpdpaeieaadoor", sum := "3f8dff4b803d3477a29e65789df3540397ecfec7f15e7b6e1629dc3508acc251", func := "pub-kmsg/laws.FnAnyInitializeShareGroupStateResponse", spec := "fnAnyInitializeShareGroupStateResponse", inPlace := ["internal/reflectlite.ValueOf", "internal/reflectlite.Swapper", "(internal/reflectlite.Value).Len"], unfollowed := true, recurses := true, named := ["encoding/binary.BigEndian", "pub-kmsg/pub/kmsg/inner/kbin.ErrNotEnoughData"], apart := false, laid := [("pub-kmsg/pub/kmsg/inner/kbin.ErrNotEnoughData", laid_pub_kmsg_pub_kmsg_inner_kbin_ErrNotEnoughData)], narrowed := true }
def FnAnyInitializeShareGroupStateResponseUptoSaid : Prop := fnAnyInitializeShareGroupStateResponseUptoRow.holds Tryd.pinned (OpenSpec.upto fnAnyInitializeShareGroupStateResponseSpec)

/-- 'laws.FnAnyDeleteTopicsResponse', WHERE WHAT IT READS IS OF BULK AT MOST 1048576: true; the input reads as it did. -/
def fnAnyDeleteTopicsResponseUptoRow : OpenClaim := { program := "ytellhjpdpaeieaadoor", sum := "3f8dff4b803d3477a29e65789df3540397ecfec7f15e7b6e1629dc3508acc251", func := "pub-kmsg/laws.FnAnyDeleteTopicsResponse", spec := "fnAnyDeleteTopicsResponse", inPlace := ["internal/reflectlite.ValueOf", "internal/reflectlite.Swapper", "(internal/reflectlite.Value).Len"], unfollowed := true, recurses := true, named := ["encoding/binary.BigEndian", "pub-kmsg/pub/kmsg/inner/kbin.ErrNotEnoughData"], apart := false, laid := [("pub-kmsg/pub/kmsg/inner/kbin.ErrNotEnoughData", laid_pub_kmsg_pub_kmsg_inner_kbin_ErrNotEnoughData)], narrowed := true }
def FnAnyDeleteTopicsResponseUptoSaid : Prop := fnAnyDeleteTopicsResponseUptoRow.holds Tryd.pinned (OpenSpec.upto fnAnyDeleteTopicsResponseSpec)

/-- 'laws.FnAnyCreateTopicsRequest', WHERE WHAT IT READS IS OF BULK AT MOST 1048576: true; the input reads as it did. -/
def fnAnyCreateTopicsRequestUptoRow : OpenClaim := { program := "ytellhjpdpaeieaadoor", sum := "3f8dff4b803d3477a29e65789df3540397ecfec7f15e7b6e1629dc3508acc251", func := "pub-kmsg/laws.FnAnyCreateTopicsRequest", spec := "fnAnyCreateTopicsRequest", inPlace := ["internal/reflectlite.ValueOf", "internal/reflectlite.Swapper", "(internal/reflectlite.Value).Len"], unfollowed := true, recurses := true, named := ["encoding/binary.BigEndian", "pub-kmsg/pub/kmsg/inner/kbin.ErrNotEnoughData"], apart := false, laid := [("pub-kmsg/pub/kmsg/inner/kbin.ErrNotEnoughData", laid_pub_kmsg_pub_kmsg_inner_kbin_ErrNotEnoughData)], narrowed := true }
def FnAnyCreateTopicsRequestUptoSaid : Prop := fnAnyCreateTopicsRequestUptoRow.holds Tryd.pinned (OpenSpec.upto fnAnyCreateTopicsRequestSpec)

/-- 'laws.FnAnyFetchSnapshotRequest', WHERE WHAT IT READS IS OF BULK AT MOST 1048576: true; the input reads as it did. -/
def fnAnyFetchSnapshotRequestUptoRow : OpenClaim := { program := "ytellhjpdpaeieaadoor", sum := "3f8dff4b803d3477a29e65789df3540397ecfec7f15e7b6e1629dc3508acc251", func := "pub-kmsg/laws.FnAnyFetchSnapshotRequest", spec := "fnAnyFetchSnapshotRequest", inPlace := ["internal/reflectlite.ValueOf", "internal/reflectlite.Swapper", "(internal/reflectlite.Value).Len"], unfollowed := true, recurses := true, named := ["encoding/binary.BigEndian", "pub-kmsg/pub/kmsg/inner/kbin.ErrNotEnoughData"], apart := false, laid := [("pub-kmsg/pub/kmsg/inner/kbin.ErrNotEnoughData", laid_pub_kmsg_pub_kmsg_inner_kbin_ErrNotEnoughData)], narrowed := true }
def FnAnyFetchSnapshotRequestUptoSaid : Prop := fnAnyFetchSnapshotRequestUptoRow.holds Tryd.pinned (OpenSpec.upto fnAnyFetchSnapshotRequestSpec)

end Rows
end Go.Proofs.YtellhjpdpaeieaaDoor
