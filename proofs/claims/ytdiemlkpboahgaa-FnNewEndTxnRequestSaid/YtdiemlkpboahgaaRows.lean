/-
  No cell of these rows narrows 'for every input' (looked for: loops, veiled, ifaces, maps, wideKeys, modest, calm, conditions, laid).
  DERIVED. THE GIVEN ROWS OF THIS SEAT. 5 by the template 'for every input the law returns true; each argument reads behind the call as it read before'; 0 by the template 'total and deterministic' (their statements: YtdiemlkpboahgaaTotals.lean).
  GIVEN WITH THE SEED: the statements are not yours to turn. If you find one false, say at which input.
  Laid BY PROGRAM, IN A SANDBOX (cutbox-rows.mjs): the forced cells as the released guide's own fill.sh prints them over the translation 6bba95fc231bf387… (all of the seat's roots in one cut). By AI agents, Wed Nov 11 2026. No macro, syntax, notation, axiom, sorry.
-/
import Derived.Test.YtdiemlkpboahgaaChecked
import GoSem.Claim
import GoSem.ClaimJoined
import GoSem.ClaimMapViews
import Derived.JoinedTies
import Derived.KernelRfl
namespace Go.Proofs.Ytdiemlkpboahgaa
/- THE CELL 'sum', in the pinned program and in every row, IS THE sha256 OF THE DUMP (.gsa) THAT YtdiemlkpboahgaaProg.lean LOADS. Nothing in Lean hashes anything: it is a label: what it is worth is what the hold of that sum in a sandbox is worth. -/
noncomputable def Try.pinned : Pinned := { name := "ytdiemlkpboahgaa", sum := "6bba95fc231bf387170211a3fc9edc707783bd04d54ce96f5906dcf5f8dd280d", checked := Try.checked }
namespace Rows
def none {H : Type} : Left H := { results := [], args := [] }

/-- 'laws.FnACLResourcePatternTypeWords': WHATEVER THE INPUT: true; the input reads as it did. -/
def fnACLResourcePatternTypeWordsSpec : ChangeSpec := { name := "fnACLResourcePatternTypeWords", fn := fun _ => fun
  | [] => { results := [.lit (.bool true)], args := [] }
  | _ => none }
def fnACLResourcePatternTypeWordsRow : OpenClaim := { program := "ytdiemlkpboahgaa", sum := "6bba95fc231bf387170211a3fc9edc707783bd04d54ce96f5906dcf5f8dd280d", func := "pub-kmsg/laws.FnACLResourcePatternTypeWords", spec := "fnACLResourcePatternTypeWords", apart := false }
def FnACLResourcePatternTypeWordsSaid : Prop := fnACLResourcePatternTypeWordsRow.holds Try.pinned (OpenSpec.ofChange fnACLResourcePatternTypeWordsSpec)

/-- ITS FALSE NEIGHBOUR: 'it returns false'. Refute it at one input. -/
def fnACLResourcePatternTypeWordsWrong : ChangeSpec := { name := "fnACLResourcePatternTypeWords", fn := fun _ => fun
  | [] => { results := [.lit (.bool false)], args := [] }
  | _ => none }
def FnACLResourcePatternTypeWordsWrongFalsely : Prop := fnACLResourcePatternTypeWordsRow.holds Try.pinned (OpenSpec.ofChange fnACLResourcePatternTypeWordsWrong)

/-- 'laws.FnMakeOld': WHATEVER THE INPUT: true; the input reads as it did. -/
def fnMakeOldSpec : ChangeSpec := { name := "fnMakeOld", fn := fun _ => fun
  | [d1, d2, d3] => { results := [.lit (.bool true)], args := [d1, d2, d3] }
  | _ => none }
def fnMakeOldRow : OpenClaim := { program := "ytdiemlkpboahgaa", sum := "6bba95fc231bf387170211a3fc9edc707783bd04d54ce96f5906dcf5f8dd280d", func := "pub-kmsg/laws.FnMakeOld", spec := "fnMakeOld", apart := false }
def FnMakeOldSaid : Prop := fnMakeOldRow.holds Try.pinned (OpenSpec.ofChange fnMakeOldSpec)

/-- ITS FALSE NEIGHBOUR: 'it returns false'. Refute it at one input. -/
def fnMakeOldWrong : ChangeSpec := { name := "fnMakeOld", fn := fun _ => fun
  | [d1, d2, d3] => { results := [.lit (.bool false)], args := [d1, d2, d3] }
  | _ => none }
def FnMakeOldWrongFalsely : Prop := fnMakeOldRow.holds Try.pinned (OpenSpec.ofChange fnMakeOldWrong)

/-- 'laws.FnNewUpdateMetadataResponse': WHATEVER THE INPUT: true; the input reads as it did. -/
def fnNewUpdateMetadataResponseSpec : ChangeSpec := { name := "fnNewUpdateMetadataResponse", fn := fun _ => fun
  | [d] => { results := [.lit (.bool true)], args := [d] }
  | _ => none }
def fnNewUpdateMetadataResponseRow : OpenClaim := { program := "ytdiemlkpboahgaa", sum := "6bba95fc231bf387170211a3fc9edc707783bd04d54ce96f5906dcf5f8dd280d", func := "pub-kmsg/laws.FnNewUpdateMetadataResponse", spec := "fnNewUpdateMetadataResponse", inPlace := ["internal/reflectlite.ValueOf", "internal/reflectlite.Swapper", "(internal/reflectlite.Value).Len"], unfollowed := true, recurses := true, apart := false }
def FnNewUpdateMetadataResponseSaid : Prop := fnNewUpdateMetadataResponseRow.holds Try.pinned (OpenSpec.ofChange fnNewUpdateMetadataResponseSpec)

/-- ITS FALSE NEIGHBOUR: 'it returns false'. Refute it at one input. -/
def fnNewUpdateMetadataResponseWrong : ChangeSpec := { name := "fnNewUpdateMetadataResponse", fn := fun _ => fun
  | [d] => { results := [.lit (.bool false)], args := [d] }
  | _ => none }
def FnNewUpdateMetadataResponseWrongFalsely : Prop := fnNewUpdateMetadataResponseRow.holds Try.pinned (OpenSpec.ofChange fnNewUpdateMetadataResponseWrong)

/-- 'laws.FnNewDescribeClusterRequest': WHATEVER THE INPUT: true; the input reads as it did. -/
def fnNewDescribeClusterRequestSpec : ChangeSpec := { name := "fnNewDescribeClusterRequest", fn := fun _ => fun
  | [d] => { results := [.lit (.bool true)], args := [d] }
  | _ => none }
def fnNewDescribeClusterRequestRow : OpenClaim := { program := "ytdiemlkpboahgaa", sum := "6bba95fc231bf387170211a3fc9edc707783bd04d54ce96f5906dcf5f8dd280d", func := "pub-kmsg/laws.FnNewDescribeClusterRequest", spec := "fnNewDescribeClusterRequest", inPlace := ["internal/reflectlite.ValueOf", "internal/reflectlite.Swapper", "(internal/reflectlite.Value).Len"], unfollowed := true, recurses := true, apart := false }
def FnNewDescribeClusterRequestSaid : Prop := fnNewDescribeClusterRequestRow.holds Try.pinned (OpenSpec.ofChange fnNewDescribeClusterRequestSpec)

/-- ITS FALSE NEIGHBOUR: 'it returns false'. Refute it at one input. -/
def fnNewDescribeClusterRequestWrong : ChangeSpec := { name := "fnNewDescribeClusterRequest", fn := fun _ => fun
  | [d] => { results := [.lit (.bool false)], args := [d] }
  | _ => none }
def FnNewDescribeClusterRequestWrongFalsely : Prop := fnNewDescribeClusterRequestRow.holds Try.pinned (OpenSpec.ofChange fnNewDescribeClusterRequestWrong)

/-- 'laws.FnNewEndTxnRequest': WHATEVER THE INPUT: true; the input reads as it did. -/
def fnNewEndTxnRequestSpec : ChangeSpec := { name := "fnNewEndTxnRequest", fn := fun _ => fun
  | [d] => { results := [.lit (.bool true)], args := [d] }
  | _ => none }
def fnNewEndTxnRequestRow : OpenClaim := { program := "ytdiemlkpboahgaa", sum := "6bba95fc231bf387170211a3fc9edc707783bd04d54ce96f5906dcf5f8dd280d", func := "pub-kmsg/laws.FnNewEndTxnRequest", spec := "fnNewEndTxnRequest", inPlace := ["internal/reflectlite.ValueOf", "internal/reflectlite.Swapper", "(internal/reflectlite.Value).Len"], unfollowed := true, recurses := true, apart := false }
def FnNewEndTxnRequestSaid : Prop := fnNewEndTxnRequestRow.holds Try.pinned (OpenSpec.ofChange fnNewEndTxnRequestSpec)

/-- ITS FALSE NEIGHBOUR: 'it returns false'. Refute it at one input. -/
def fnNewEndTxnRequestWrong : ChangeSpec := { name := "fnNewEndTxnRequest", fn := fun _ => fun
  | [d] => { results := [.lit (.bool false)], args := [d] }
  | _ => none }
def FnNewEndTxnRequestWrongFalsely : Prop := fnNewEndTxnRequestRow.holds Try.pinned (OpenSpec.ofChange fnNewEndTxnRequestWrong)

/- THE SECOND FORM. 'bulk': how many values and letters a reading holds, each counted each time it is reached (what is shared counts as often as it is met; a slice's spare places count too). A statement '..UptoSaid' is the law's where the arguments, and the package variables that the reading takes, are together of bulk at most 1048576: NARROWER than '..Said'. Prove '..Said' where nothing that the law and all that it calls make is longer than what came in: it says more and counts as full. Else prove '..UptoSaid'. A law counts once. -/
mutual
def uptoBulk {H : Type} : DataW H → Nat
  | .lit (.string bytes) => bytes.length + 1
  | .lit _ => 1
  | .nil => 1
  | .ptr d => uptoBulk d + 1
  | .slice elems spare => uptoBulkAll elems + uptoBulkAll spare + 1
  | .agg parts => uptoBulkAll parts + 1
  | .iface _ d => uptoBulk d + 1
  | .map entries => uptoBulkEntries entries + 1
  | .held _ => 1
def uptoBulkAll {H : Type} : List (DataW H) → Nat
  | [] => 0
  | d :: r => uptoBulk d + uptoBulkAll r
def uptoBulkEntries {H : Type} : List (Lit × DataW H) → Nat
  | [] => 0
  | x :: r => uptoBulkEntry x + uptoBulkEntries r
def uptoBulkEntry {H : Type} : Lit × DataW H → Nat
  | (.string bytes, d) => bytes.length + uptoBulk d + 1
  | (_, d) => uptoBulk d + 1
 end
def uptoSmall : (H : Type) → List (DataW H) → Bool := fun _ ds => decide (uptoBulkAll ds ≤ 1048576)
def OpenSpec.upto (s : _root_.Go.ChangeSpec) : _root_.Go.OpenSpec := { _root_.Go.OpenSpec.ofChange s with cond := some uptoSmall }

/-- 'laws.FnACLResourcePatternTypeWords', WHERE WHAT IT READS IS OF BULK AT MOST 1048576: true; the input reads as it did. -/
def fnACLResourcePatternTypeWordsUptoRow : OpenClaim := { program := "ytdiemlkpboahgaa", sum := "6bba95fc231bf387170211a3fc9edc707783bd04d54ce96f5906dcf5f8dd280d", func := "pub-kmsg/laws.FnACLResourcePatternTypeWords", spec := "fnACLResourcePatternTypeWords", apart := false, narrowed := true }
def FnACLResourcePatternTypeWordsUptoSaid : Prop := fnACLResourcePatternTypeWordsUptoRow.holds Try.pinned (OpenSpec.upto fnACLResourcePatternTypeWordsSpec)

/-- 'laws.FnMakeOld', WHERE WHAT IT READS IS OF BULK AT MOST 1048576: true; the input reads as it did. -/
def fnMakeOldUptoRow : OpenClaim := { program := "ytdiemlkpboahgaa", sum := "6bba95fc231bf387170211a3fc9edc707783bd04d54ce96f5906dcf5f8dd280d", func := "pub-kmsg/laws.FnMakeOld", spec := "fnMakeOld", apart := false, narrowed := true }
def FnMakeOldUptoSaid : Prop := fnMakeOldUptoRow.holds Try.pinned (OpenSpec.upto fnMakeOldSpec)

/-- 'laws.FnNewUpdateMetadataResponse', WHERE WHAT IT READS IS OF BULK AT MOST 1048576: true; the input reads as it did. -/
def fnNewUpdateMetadataResponseUptoRow : OpenClaim := { program := "ytdiemlkpboahgaa", sum := "6bba95fc231bf387170211a3fc9edc707783bd04d54ce96f5906dcf5f8dd280d", func := "pub-kmsg/laws.FnNewUpdateMetadataResponse", spec := "fnNewUpdateMetadataResponse", inPlace := ["internal/reflectlite.ValueOf", "internal/reflectlite.Swapper", "(internal/reflectlite.Value).Len"], unfollowed := true, recurses := true, apart := false, narrowed := true }
def FnNewUpdateMetadataResponseUptoSaid : Prop := fnNewUpdateMetadataResponseUptoRow.holds Try.pinned (OpenSpec.upto fnNewUpdateMetadataResponseSpec)

/-- 'laws.FnNewDescribeClusterRequest', WHERE WHAT IT READS IS OF BULK AT MOST 1048576: true; the input reads as it did. -/
def fnNewDescribeClusterRequestUptoRow : OpenClaim := { program := "ytdiemlkpboahgaa", sum := "6bba95fc231bf387170211a3fc9edc707783bd04d54ce96f5906dcf5f8dd280d", func := "pub-kmsg/laws.FnNewDescribeClusterRequest", spec := "fnNewDescribeClusterRequest", inPlace := ["internal/reflectlite.ValueOf", "internal/reflectlite.Swapper", "(internal/reflectlite.Value).Len"], unfollowed := true, recurses := true, apart := false, narrowed := true }
def FnNewDescribeClusterRequestUptoSaid : Prop := fnNewDescribeClusterRequestUptoRow.holds Try.pinned (OpenSpec.upto fnNewDescribeClusterRequestSpec)

/-- 'laws.FnNewEndTxnRequest', WHERE WHAT IT READS IS OF BULK AT MOST 1048576: true; the input reads as it did. -/
def fnNewEndTxnRequestUptoRow : OpenClaim := { program := "ytdiemlkpboahgaa", sum := "6bba95fc231bf387170211a3fc9edc707783bd04d54ce96f5906dcf5f8dd280d", func := "pub-kmsg/laws.FnNewEndTxnRequest", spec := "fnNewEndTxnRequest", inPlace := ["internal/reflectlite.ValueOf", "internal/reflectlite.Swapper", "(internal/reflectlite.Value).Len"], unfollowed := true, recurses := true, apart := false, narrowed := true }
def FnNewEndTxnRequestUptoSaid : Prop := fnNewEndTxnRequestUptoRow.holds Try.pinned (OpenSpec.upto fnNewEndTxnRequestSpec)

end Rows
end Go.Proofs.Ytdiemlkpboahgaa
