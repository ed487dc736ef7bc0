/-
  NARROWER THAN 'FOR EVERY INPUT', by the rows' own cells (each row's printed sentence says how): FnParseControlRecordKeyType: laid · FnConfigSourceText: laid · FnAgainUpdateMetadataResponse: loops, laid · FnAgainDescribeClusterRequest: loops, laid · FnAnySASLAuthenticateRequest: laid · FnCutBrokerHeartbeatResponse: loops, laid · FnAnyAllocateProducerIDsResponse: laid · FnCutExpireDelegationTokenRequest: loops, laid.
  DERIVED. THE GIVEN ROWS OF THIS SEAT. 8 by the template 'for every input the law returns true; each argument reads behind the call as it read before'; 0 by the template 'total and deterministic' (their statements: YtaihhpnfelobjaaDoorRTotals.lean).
  GIVEN WITH THE SEED: the statements are not yours to turn. If you find one false, say at which input.
  Laid BY PROGRAM, IN A SANDBOX (cutbox-rows.mjs): the forced cells as the released guide's own fill.sh prints them over the translation c2355adde29fcd78… (all of the seat's roots in one cut). By AI agents, Wed Nov 11 2026. No macro, syntax, notation, axiom, sorry.
-/
import Derived.Test.YtaihhpnfelobjaaDoorRChecked
import GoSem.PinnedTables
import GoSem.Claim
import GoSem.ClaimJoined
import GoSem.ClaimMapViews
import Derived.JoinedTies
import Derived.KernelRfl
namespace Go.Proofs.YtaihhpnfelobjaaDoorR
/- THE CELL 'sum', in the pinned program and in every row, IS THE sha256 OF THE DUMP (.gsa) THAT YtaihhpnfelobjaaDoorRProg.lean LOADS. Nothing in Lean hashes anything: it is a label: what it is worth is what the hold of that sum in a sandbox is worth. -/
noncomputable def Tryd.pinned : Pinned := { name := "ytaihhpnfelobjaadoorr", sum := "c2355adde29fcd78e7ff019c04e25190a5a6331b6d86f52600c86341dd17dbd8", checked := Tryd.checked }
namespace Rows
def none {H : Type} : Left H := { results := [], args := [] }

/- WHAT THE LISTED PACKAGE-LEVEL VARIABLES READ AS WHEN THE CALL BEGINS. Each datum BY PROGRAM (the guide's laid-datum.mjs) off the statement by which the dump's own 'gosem.cut.vars' lays the variable. In a bare row this is a premise. The card (YtaihhpnfelobjaaDoorRCards.lean) ties it to the program's text. -/
def laid_unicode_utf8_acceptRanges {H : Type} : DataW H := .agg [.agg [.lit (.int .u8 128), .lit (.int .u8 191)], .agg [.lit (.int .u8 160), .lit (.int .u8 191)], .agg [.lit (.int .u8 128), .lit (.int .u8 159)], .agg [.lit (.int .u8 144), .lit (.int .u8 191)], .agg [.lit (.int .u8 128), .lit (.int .u8 143)], .agg [.lit (.int .u8 0), .lit (.int .u8 0)], .agg [.lit (.int .u8 0), .lit (.int .u8 0)], .agg [.lit (.int .u8 0), .lit (.int .u8 0)], .agg [.lit (.int .u8 0), .lit (.int .u8 0)], .agg [.lit (.int .u8 0), .lit (.int .u8 0)], .agg [.lit (.int .u8 0), .lit (.int .u8 0)], .agg [.lit (.int .u8 0), .lit (.int .u8 0)], .agg [.lit (.int .u8 0), .lit (.int .u8 0)], .agg [.lit (.int .u8 0), .lit (.int .u8 0)], .agg [.lit (.int .u8 0), .lit (.int .u8 0)], .agg [.lit (.int .u8 0), .lit (.int .u8 0)]]
def laid_unicode_White_Space {H : Type} : DataW H := .ptr (.agg [.slice [.agg [.lit (.int .u16 9), .lit (.int .u16 13), .lit (.int .u16 1)], .agg [.lit (.int .u16 32), .lit (.int .u16 133), .lit (.int .u16 101)], .agg [.lit (.int .u16 160), .lit (.int .u16 5760), .lit (.int .u16 5600)], .agg [.lit (.int .u16 8192), .lit (.int .u16 8202), .lit (.int .u16 1)], .agg [.lit (.int .u16 8232), .lit (.int .u16 8233), .lit (.int .u16 1)], .agg [.lit (.int .u16 8239), .lit (.int .u16 8287), .lit (.int .u16 48)], .agg [.lit (.int .u16 12288), .lit (.int .u16 12288), .lit (.int .u16 1)]] [], .nil, .lit (.int .i64 2)])
def laid_strings_asciiSpace {H : Type} : DataW H := .agg [.lit (.int .u8 0), .lit (.int .u8 0), .lit (.int .u8 0), .lit (.int .u8 0), .lit (.int .u8 0), .lit (.int .u8 0), .lit (.int .u8 0), .lit (.int .u8 0), .lit (.int .u8 0), .lit (.int .u8 1), .lit (.int .u8 1), .lit (.int .u8 1), .lit (.int .u8 1), .lit (.int .u8 1), .lit (.int .u8 0), .lit (.int .u8 0), .lit (.int .u8 0), .lit (.int .u8 0), .lit (.int .u8 0), .lit (.int .u8 0), .lit (.int .u8 0), .lit (.int .u8 0), .lit (.int .u8 0), .lit (.int .u8 0), .lit (.int .u8 0), .lit (.int .u8 0), .lit (.int .u8 0), .lit (.int .u8 0), .lit (.int .u8 0), .lit (.int .u8 0), .lit (.int .u8 0), .lit (.int .u8 0), .lit (.int .u8 1), .lit (.int .u8 0), .lit (.int .u8 0), .lit (.int .u8 0), .lit (.int .u8 0), .lit (.int .u8 0), .lit (.int .u8 0), .lit (.int .u8 0), .lit (.int .u8 0), .lit (.int .u8 0), .lit (.int .u8 0), .lit (.int .u8 0), .lit (.int .u8 0), .lit (.int .u8 0), .lit (.int .u8 0), .lit (.int .u8 0), .lit (.int .u8 0), .lit (.int .u8 0), .lit (.int .u8 0), .lit (.int .u8 0), .lit (.int .u8 0), .lit (.int .u8 0), .lit (.int .u8 0), .lit (.int .u8 0), .lit (.int .u8 0), .lit (.int .u8 0), .lit (.int .u8 0), .lit (.int .u8 0), .lit (.int .u8 0), .lit (.int .u8 0), .lit (.int .u8 0), .lit (.int .u8 0), .lit (.int .u8 0), .lit (.int .u8 0), .lit (.int .u8 0), .lit (.int .u8 0), .lit (.int .u8 0), .lit (.int .u8 0), .lit (.int .u8 0), .lit (.int .u8 0), .lit (.int .u8 0), .lit (.int .u8 0), .lit (.int .u8 0), .lit (.int .u8 0), .lit (.int .u8 0), .lit (.int .u8 0), .lit (.int .u8 0), .lit (.int .u8 0), .lit (.int .u8 0), .lit (.int .u8 0), .lit (.int .u8 0), .lit (.int .u8 0), .lit (.int .u8 0), .lit (.int .u8 0), .lit (.int .u8 0), .lit (.int .u8 0), .lit (.int .u8 0), .lit (.int .u8 0), .lit (.int .u8 0), .lit (.int .u8 0), .lit (.int .u8 0), .lit (.int .u8 0), .lit (.int .u8 0), .lit (.int .u8 0), .lit (.int .u8 0), .lit (.int .u8 0), .lit (.int .u8 0), .lit (.int .u8 0), .lit (.int .u8 0), .lit (.int .u8 0), .lit (.int .u8 0), .lit (.int .u8 0), .lit (.int .u8 0), .lit (.int .u8 0), .lit (.int .u8 0), .lit (.int .u8 0), .lit (.int .u8 0), .lit (.int .u8 0), .lit (.int .u8 0), .lit (.int .u8 0), .lit (.int .u8 0), .lit (.int .u8 0), .lit (.int .u8 0), .lit (.int .u8 0), .lit (.int .u8 0), .lit (.int .u8 0), .lit (.int .u8 0), .lit (.int .u8 0), .lit (.int .u8 0), .lit (.int .u8 0), .lit (.int .u8 0), .lit (.int .u8 0), .lit (.int .u8 0), .lit (.int .u8 0), .lit (.int .u8 0), .lit (.int .u8 0), .lit (.int .u8 0), .lit (.int .u8 0), .lit (.int .u8 0), .lit (.int .u8 0), .lit (.int .u8 0), .lit (.int .u8 0), .lit (.int .u8 0), .lit (.int .u8 0), .lit (.int .u8 0), .lit (.int .u8 0), .lit (.int .u8 0), .lit (.int .u8 0), .lit (.int .u8 0), .lit (.int .u8 0), .lit (.int .u8 0), .lit (.int .u8 0), .lit (.int .u8 0), .lit (.int .u8 0), .lit (.int .u8 0), .lit (.int .u8 0), .lit (.int .u8 0), .lit (.int .u8 0), .lit (.int .u8 0), .lit (.int .u8 0), .lit (.int .u8 0), .lit (.int .u8 0), .lit (.int .u8 0), .lit (.int .u8 0), .lit (.int .u8 0), .lit (.int .u8 0), .lit (.int .u8 0), .lit (.int .u8 0), .lit (.int .u8 0), .lit (.int .u8 0), .lit (.int .u8 0), .lit (.int .u8 0), .lit (.int .u8 0), .lit (.int .u8 0), .lit (.int .u8 0), .lit (.int .u8 0), .lit (.int .u8 0), .lit (.int .u8 0), .lit (.int .u8 0), .lit (.int .u8 0), .lit (.int .u8 0), .lit (.int .u8 0), .lit (.int .u8 0), .lit (.int .u8 0), .lit (.int .u8 0), .lit (.int .u8 0), .lit (.int .u8 0), .lit (.int .u8 0), .lit (.int .u8 0), .lit (.int .u8 0), .lit (.int .u8 0), .lit (.int .u8 0), .lit (.int .u8 0), .lit (.int .u8 0), .lit (.int .u8 0), .lit (.int .u8 0), .lit (.int .u8 0), .lit (.int .u8 0), .lit (.int .u8 0), .lit (.int .u8 0), .lit (.int .u8 0), .lit (.int .u8 0), .lit (.int .u8 0), .lit (.int .u8 0), .lit (.int .u8 0), .lit (.int .u8 0), .lit (.int .u8 0), .lit (.int .u8 0), .lit (.int .u8 0), .lit (.int .u8 0), .lit (.int .u8 0), .lit (.int .u8 0), .lit (.int .u8 0), .lit (.int .u8 0), .lit (.int .u8 0), .lit (.int .u8 0), .lit (.int .u8 0), .lit (.int .u8 0), .lit (.int .u8 0), .lit (.int .u8 0), .lit (.int .u8 0), .lit (.int .u8 0), .lit (.int .u8 0), .lit (.int .u8 0), .lit (.int .u8 0), .lit (.int .u8 0), .lit (.int .u8 0), .lit (.int .u8 0), .lit (.int .u8 0), .lit (.int .u8 0), .lit (.int .u8 0), .lit (.int .u8 0), .lit (.int .u8 0), .lit (.int .u8 0), .lit (.int .u8 0), .lit (.int .u8 0), .lit (.int .u8 0), .lit (.int .u8 0), .lit (.int .u8 0), .lit (.int .u8 0), .lit (.int .u8 0), .lit (.int .u8 0), .lit (.int .u8 0), .lit (.int .u8 0), .lit (.int .u8 0), .lit (.int .u8 0), .lit (.int .u8 0), .lit (.int .u8 0), .lit (.int .u8 0), .lit (.int .u8 0), .lit (.int .u8 0), .lit (.int .u8 0), .lit (.int .u8 0), .lit (.int .u8 0), .lit (.int .u8 0), .lit (.int .u8 0), .lit (.int .u8 0), .lit (.int .u8 0), .lit (.int .u8 0), .lit (.int .u8 0), .lit (.int .u8 0), .lit (.int .u8 0), .lit (.int .u8 0), .lit (.int .u8 0)]
/-- One of Go's own tables, pinned by name: the form's constant. -/
def laid_unicode_CaseRanges : DataW Unit := Go.Pinned.caseRanges
/-- One of Go's own tables, pinned by name: the form's constant. -/
def laid_unicode_utf8_first : DataW Unit := Go.Pinned.utf8First
def laid_pub_kmsg_pub_kmsg_inner_kbin_ErrNotEnoughData {H : Type} : DataW H := .iface "*errors.errorString" (.ptr (.agg [.lit (.string [114, 101, 115, 112, 111, 110, 115, 101, 32, 100, 105, 100, 32, 110, 111, 116, 32, 99, 111, 110, 116, 97, 105, 110, 32, 101, 110, 111, 117, 103, 104, 32, 100, 97, 116, 97, 32, 116, 111, 32, 98, 101, 32, 118, 97, 108, 105, 100])]))

/-- 'laws.FnParseControlRecordKeyType': WHATEVER THE INPUT: true; the input reads as it did. -/
def fnParseControlRecordKeyTypeSpec : ChangeSpec := { name := "fnParseControlRecordKeyType", fn := fun _ => fun
  | [d] => { results := [.lit (.bool true)], args := [d] }
  | _ => none }
def fnParseControlRecordKeyTypeRow : OpenClaim := { program := "ytaihhpnfelobjaadoorr", sum := "c2355adde29fcd78e7ff019c04e25190a5a6331b6d86f52600c86341dd17dbd8", func := "pub-kmsg/laws.FnParseControlRecordKeyType", spec := "fnParseControlRecordKeyType", inPlace := ["internal/abi.NoEscape", "internal/bytealg.MakeNoZero"], unfollowed := true, recurses := true, named := ["strings.asciiSpace", "unicode/utf8.first", "unicode/utf8.acceptRanges", "unicode.White_Space", "unicode.CaseRanges"], apart := false, laid := [("unicode/utf8.acceptRanges", laid_unicode_utf8_acceptRanges), ("unicode.White_Space", laid_unicode_White_Space), ("strings.asciiSpace", laid_strings_asciiSpace), ("unicode.CaseRanges", laid_unicode_CaseRanges), ("unicode/utf8.first", laid_unicode_utf8_first)] }
def FnParseControlRecordKeyTypeSaid : Prop := fnParseControlRecordKeyTypeRow.holds Tryd.pinned (OpenSpec.ofChange fnParseControlRecordKeyTypeSpec)

/-- ITS FALSE NEIGHBOUR: 'it returns false'. Refute it at one input. -/
def fnParseControlRecordKeyTypeWrong : ChangeSpec := { name := "fnParseControlRecordKeyType", fn := fun _ => fun
  | [d] => { results := [.lit (.bool false)], args := [d] }
  | _ => none }
def FnParseControlRecordKeyTypeWrongFalsely : Prop := fnParseControlRecordKeyTypeRow.holds Tryd.pinned (OpenSpec.ofChange fnParseControlRecordKeyTypeWrong)

/-- 'laws.FnConfigSourceText': WHATEVER THE INPUT: true; the input reads as it did. -/
def fnConfigSourceTextSpec : ChangeSpec := { name := "fnConfigSourceText", fn := fun _ => fun
  | [d] => { results := [.lit (.bool true)], args := [d] }
  | _ => none }
def fnConfigSourceTextRow : OpenClaim := { program := "ytaihhpnfelobjaadoorr", sum := "c2355adde29fcd78e7ff019c04e25190a5a6331b6d86f52600c86341dd17dbd8", func := "pub-kmsg/laws.FnConfigSourceText", spec := "fnConfigSourceText", inPlace := ["internal/abi.NoEscape", "internal/bytealg.MakeNoZero"], unfollowed := true, recurses := true, named := ["strings.asciiSpace", "unicode/utf8.first", "unicode/utf8.acceptRanges", "unicode.White_Space", "unicode.CaseRanges"], apart := false, laid := [("unicode/utf8.acceptRanges", laid_unicode_utf8_acceptRanges), ("unicode.White_Space", laid_unicode_White_Space), ("strings.asciiSpace", laid_strings_asciiSpace), ("unicode.CaseRanges", laid_unicode_CaseRanges), ("unicode/utf8.first", laid_unicode_utf8_first)] }
def FnConfigSourceTextSaid : Prop := fnConfigSourceTextRow.holds Tryd.pinned (OpenSpec.ofChange fnConfigSourceTextSpec)

/-- ITS FALSE NEIGHBOUR: 'it returns false'. Refute it at one input. -/
def fnConfigSourceTextWrong : ChangeSpec := { name := "fnConfigSourceText", fn := fun _ => fun
  | [d] => { results := [.lit (.bool false)], args := [d] }
  | _ => none }
def FnConfigSourceTextWrongFalsely : Prop := fnConfigSourceTextRow.holds Tryd.pinned (OpenSpec.ofChange fnConfigSourceTextWrong)

/-- 'laws.FnAgainUpdateMetadataResponse': WHATEVER THE INPUT: true; the input reads as it did. -/
def fnAgainUpdateMetadataResponseSpec : ChangeSpec := { name := "fnAgainUpdateMetadataResponse", fn := fun _ => fun
  | [d1, d2] => { results := [.lit (.bool true)], args := [d1, d2] }
  | _ => none }
def fnAgainUpdateMetadataResponseRow : OpenClaim := { program := "ytaihhpnfelobjaadoorr", sum := "c2355adde29fcd78e7ff019c04e25190a5a6331b6d86f52600c86341dd17dbd8", func := "pub-kmsg/laws.FnAgainUpdateMetadataResponse", spec := "fnAgainUpdateMetadataResponse", inPlace := ["internal/reflectlite.ValueOf", "internal/reflectlite.Swapper", "(internal/reflectlite.Value).Len"], unfollowed := true, recurses := true, named := ["encoding/binary.BigEndian", "pub-kmsg/pub/kmsg/inner/kbin.ErrNotEnoughData"], loops := true, apart := false, laid := [("pub-kmsg/pub/kmsg/inner/kbin.ErrNotEnoughData", laid_pub_kmsg_pub_kmsg_inner_kbin_ErrNotEnoughData)] }
def FnAgainUpdateMetadataResponseSaid : Prop := fnAgainUpdateMetadataResponseRow.holds Tryd.pinned (OpenSpec.ofChange fnAgainUpdateMetadataResponseSpec)

/-- ITS FALSE NEIGHBOUR: 'it returns false'. Refute it at one input. -/
def fnAgainUpdateMetadataResponseWrong : ChangeSpec := { name := "fnAgainUpdateMetadataResponse", fn := fun _ => fun
  | [d1, d2] => { results := [.lit (.bool false)], args := [d1, d2] }
  | _ => none }
def FnAgainUpdateMetadataResponseWrongFalsely : Prop := fnAgainUpdateMetadataResponseRow.holds Tryd.pinned (OpenSpec.ofChange fnAgainUpdateMetadataResponseWrong)

/-- 'laws.FnAgainDescribeClusterRequest': WHATEVER THE INPUT: true; the input reads as it did. -/
def fnAgainDescribeClusterRequestSpec : ChangeSpec := { name := "fnAgainDescribeClusterRequest", fn := fun _ => fun
  | [d1, d2] => { results := [.lit (.bool true)], args := [d1, d2] }
  | _ => none }
def fnAgainDescribeClusterRequestRow : OpenClaim := { program := "ytaihhpnfelobjaadoorr", sum := "c2355adde29fcd78e7ff019c04e25190a5a6331b6d86f52600c86341dd17dbd8", func := "pub-kmsg/laws.FnAgainDescribeClusterRequest", spec := "fnAgainDescribeClusterRequest", inPlace := ["internal/reflectlite.ValueOf", "internal/reflectlite.Swapper", "(internal/reflectlite.Value).Len"], unfollowed := true, recurses := true, named := ["pub-kmsg/pub/kmsg/inner/kbin.ErrNotEnoughData"], loops := true, apart := false, laid := [("pub-kmsg/pub/kmsg/inner/kbin.ErrNotEnoughData", laid_pub_kmsg_pub_kmsg_inner_kbin_ErrNotEnoughData)] }
def FnAgainDescribeClusterRequestSaid : Prop := fnAgainDescribeClusterRequestRow.holds Tryd.pinned (OpenSpec.ofChange fnAgainDescribeClusterRequestSpec)

/-- ITS FALSE NEIGHBOUR: 'it returns false'. Refute it at one input. -/
def fnAgainDescribeClusterRequestWrong : ChangeSpec := { name := "fnAgainDescribeClusterRequest", fn := fun _ => fun
  | [d1, d2] => { results := [.lit (.bool false)], args := [d1, d2] }
  | _ => none }
def FnAgainDescribeClusterRequestWrongFalsely : Prop := fnAgainDescribeClusterRequestRow.holds Tryd.pinned (OpenSpec.ofChange fnAgainDescribeClusterRequestWrong)

/-- 'laws.FnAnySASLAuthenticateRequest': WHATEVER THE INPUT: true; the input reads as it did. -/
def fnAnySASLAuthenticateRequestSpec : ChangeSpec := { name := "fnAnySASLAuthenticateRequest", fn := fun _ => fun
  | [d1, d2] => { results := [.lit (.bool true)], args := [d1, d2] }
  | _ => none }
def fnAnySASLAuthenticateRequestRow : OpenClaim := { program := "ytaihhpnfelobjaadoorr", sum := "c2355adde29fcd78e7ff019c04e25190a5a6331b6d86f52600c86341dd17dbd8", func := "pub-kmsg/laws.FnAnySASLAuthenticateRequest", spec := "fnAnySASLAuthenticateRequest", inPlace := ["internal/reflectlite.ValueOf", "internal/reflectlite.Swapper", "(internal/reflectlite.Value).Len"], unfollowed := true, recurses := true, named := ["encoding/binary.BigEndian", "pub-kmsg/pub/kmsg/inner/kbin.ErrNotEnoughData"], apart := false, laid := [("pub-kmsg/pub/kmsg/inner/kbin.ErrNotEnoughData", laid_pub_kmsg_pub_kmsg_inner_kbin_ErrNotEnoughData)] }
def FnAnySASLAuthenticateRequestSaid : Prop := fnAnySASLAuthenticateRequestRow.holds Tryd.pinned (OpenSpec.ofChange fnAnySASLAuthenticateRequestSpec)

/-- ITS FALSE NEIGHBOUR: 'it returns false'. Refute it at one input. -/
def fnAnySASLAuthenticateRequestWrong : ChangeSpec := { name := "fnAnySASLAuthenticateRequest", fn := fun _ => fun
  | [d1, d2] => { results := [.lit (.bool false)], args := [d1, d2] }
  | _ => none }
def FnAnySASLAuthenticateRequestWrongFalsely : Prop := fnAnySASLAuthenticateRequestRow.holds Tryd.pinned (OpenSpec.ofChange fnAnySASLAuthenticateRequestWrong)

/-- 'laws.FnCutBrokerHeartbeatResponse': WHATEVER THE INPUT: true; the input reads as it did. -/
def fnCutBrokerHeartbeatResponseSpec : ChangeSpec := { name := "fnCutBrokerHeartbeatResponse", fn := fun _ => fun
  | [d1, d2, d3] => { results := [.lit (.bool true)], args := [d1, d2, d3] }
  | _ => none }
def fnCutBrokerHeartbeatResponseRow : OpenClaim := { program := "ytaihhpnfelobjaadoorr", sum := "c2355adde29fcd78e7ff019c04e25190a5a6331b6d86f52600c86341dd17dbd8", func := "pub-kmsg/laws.FnCutBrokerHeartbeatResponse", spec := "fnCutBrokerHeartbeatResponse", inPlace := ["internal/reflectlite.ValueOf", "internal/reflectlite.Swapper", "(internal/reflectlite.Value).Len"], unfollowed := true, recurses := true, named := ["encoding/binary.BigEndian", "pub-kmsg/pub/kmsg/inner/kbin.ErrNotEnoughData"], loops := true, apart := false, laid := [("pub-kmsg/pub/kmsg/inner/kbin.ErrNotEnoughData", laid_pub_kmsg_pub_kmsg_inner_kbin_ErrNotEnoughData)] }
def FnCutBrokerHeartbeatResponseSaid : Prop := fnCutBrokerHeartbeatResponseRow.holds Tryd.pinned (OpenSpec.ofChange fnCutBrokerHeartbeatResponseSpec)

/-- ITS FALSE NEIGHBOUR: 'it returns false'. Refute it at one input. -/
def fnCutBrokerHeartbeatResponseWrong : ChangeSpec := { name := "fnCutBrokerHeartbeatResponse", fn := fun _ => fun
  | [d1, d2, d3] => { results := [.lit (.bool false)], args := [d1, d2, d3] }
  | _ => none }
def FnCutBrokerHeartbeatResponseWrongFalsely : Prop := fnCutBrokerHeartbeatResponseRow.holds Tryd.pinned (OpenSpec.ofChange fnCutBrokerHeartbeatResponseWrong)

/-- 'laws.FnAnyAllocateProducerIDsResponse': WHATEVER THE INPUT: true; the input reads as it did. -/
def fnAnyAllocateProducerIDsResponseSpec : ChangeSpec := { name := "fnAnyAllocateProducerIDsResponse", fn := fun _ => fun
  | [d1, d2] => { results := [.lit (.bool true)], args := [d1, d2] }
  | _ => none }
def fnAnyAllocateProducerIDsResponseRow : OpenClaim := { program := "ytaihhpnfelobjaadoorr", sum := "c2355adde29fcd78e7ff019c04e25190a5a6331b6d86f52600c86341dd17dbd8", func := "pub-kmsg/laws.FnAnyAllocateProducerIDsResponse", spec := "fnAnyAllocateProducerIDsResponse", inPlace := ["internal/reflectlite.ValueOf", "internal/reflectlite.Swapper", "(internal/reflectlite.Value).Len"], unfollowed := true, recurses := true, named := ["encoding/binary.BigEndian", "pub-kmsg/pub/kmsg/inner/kbin.ErrNotEnoughData"], apart := false, laid := [("pub-kmsg/pub/kmsg/inner/kbin.ErrNotEnoughData", laid_pub_kmsg_pub_kmsg_inner_kbin_ErrNotEnoughData)] }
def FnAnyAllocateProducerIDsResponseSaid : Prop := fnAnyAllocateProducerIDsResponseRow.holds Tryd.pinned (OpenSpec.ofChange fnAnyAllocateProducerIDsResponseSpec)

/-- ITS FALSE NEIGHBOUR: 'it returns false'. Refute it at one input. -/
def fnAnyAllocateProducerIDsResponseWrong : ChangeSpec := { name := "fnAnyAllocateProducerIDsResponse", fn := fun _ => fun
  | [d1, d2] => { results := [.lit (.bool false)], args := [d1, d2] }
  | _ => none }
def FnAnyAllocateProducerIDsResponseWrongFalsely : Prop := fnAnyAllocateProducerIDsResponseRow.holds Tryd.pinned (OpenSpec.ofChange fnAnyAllocateProducerIDsResponseWrong)

/-- 'laws.FnCutExpireDelegationTokenRequest': WHATEVER THE INPUT: true; the input reads as it did. -/
def fnCutExpireDelegationTokenRequestSpec : ChangeSpec := { name := "fnCutExpireDelegationTokenRequest", fn := fun _ => fun
  | [d1, d2, d3] => { results := [.lit (.bool true)], args := [d1, d2, d3] }
  | _ => none }
def fnCutExpireDelegationTokenRequestRow : OpenClaim := { program := "ytaihhpnfelobjaadoorr", sum := "c2355adde29fcd78e7ff019c04e25190a5a6331b6d86f52600c86341dd17dbd8", func := "pub-kmsg/laws.FnCutExpireDelegationTokenRequest", spec := "fnCutExpireDelegationTokenRequest", inPlace := ["internal/reflectlite.ValueOf", "internal/reflectlite.Swapper", "(internal/reflectlite.Value).Len"], unfollowed := true, recurses := true, named := ["encoding/binary.BigEndian", "pub-kmsg/pub/kmsg/inner/kbin.ErrNotEnoughData"], loops := true, apart := false, laid := [("pub-kmsg/pub/kmsg/inner/kbin.ErrNotEnoughData", laid_pub_kmsg_pub_kmsg_inner_kbin_ErrNotEnoughData)] }
def FnCutExpireDelegationTokenRequestSaid : Prop := fnCutExpireDelegationTokenRequestRow.holds Tryd.pinned (OpenSpec.ofChange fnCutExpireDelegationTokenRequestSpec)

/-- ITS FALSE NEIGHBOUR: 'it returns false'. Refute it at one input. -/
def fnCutExpireDelegationTokenRequestWrong : ChangeSpec := { name := "fnCutExpireDelegationTokenRequest", fn := fun _ => fun
  | [d1, d2, d3] => { results := [.lit (.bool false)], args := [d1, d2, d3] }
  | _ => none }
def FnCutExpireDelegationTokenRequestWrongFalsely : Prop := fnCutExpireDelegationTokenRequestRow.holds Tryd.pinned (OpenSpec.ofChange fnCutExpireDelegationTokenRequestWrong)

/- THE SECOND FORM. 'bulk': how many values and letters a reading holds, each counted each time it is reached (what is shared counts as often as it is met; a slice's spare places count too). A statement '..UptoSaid' is the law's where the arguments, and the package variables that the reading takes, are together of bulk at most 1048576: NARROWER than '..Said'. Prove '..Said' where nothing that the law and all that it calls make is longer than what came in: it says more and counts as full. Else prove '..UptoSaid'. A law counts once. -/
mutual
def uptoBulk {H : Type} : DataW H → Nat
  | .lit (.string bytes) => bytes.length + 1
  | .lit _ => 1
  | .nil => 1
  | .ptr d => uptoBulk d + 1
  | .slice elems spare => uptoBulkAll elems + uptoBulkAll spare + 1
  | .agg parts => uptoBulkAll parts + 1
  | .iface _ d => uptoBulk d + 1
  | .map entries => uptoBulkEntries entries + 1
  | .held _ => 1
def uptoBulkAll {H : Type} : List (DataW H) → Nat
  | [] => 0
  | d :: r => uptoBulk d + uptoBulkAll r
def uptoBulkEntries {H : Type} : List (Lit × DataW H) → Nat
  | [] => 0
  | x :: r => uptoBulkEntry x + uptoBulkEntries r
def uptoBulkEntry {H : Type} : Lit × DataW H → Nat
  | (.string bytes, d) => bytes.length + uptoBulk d + 1
  | (_, d) => uptoBulk d + 1
 end
def uptoSmall : (H : Type) → List (DataW H) → Bool := fun _ ds => decide (uptoBulkAll ds ≤ 1048576)
def OpenSpec.upto (s : _root_.Go.ChangeSpec) : _root_.Go.OpenSpec := { _root_.Go.OpenSpec.ofChange s with cond := some uptoSmall }

/-- 'laws.FnParseControlRecordKeyType', WHERE WHAT IT READS IS OF BULK AT MOST 1048576: true; the input reads as it did. -/
def fnParseControlRecordKeyTypeUptoRow : OpenClaim := { program := "ytaihhpnfelobjaadoorr", sum := "c2355adde29fcd78e7ff019c04e25190a5a6331b6d86f52600c86341dd17dbd8", func := "pub-kmsg/laws.FnParseControlRecordKeyType", spec := "fnParseControlRecordKeyType", inPlace := ["internal/abi.NoEscape", "internal/bytealg.MakeNoZero"], unfollowed := true, recurses := true, named := ["strings.asciiSpace", "unicode/utf8.first", "unicode/utf8.acceptRanges", "unicode.White_Space", "unicode.CaseRanges"], apart := false, laid := [("unicode/utf8.acceptRanges", laid_unicode_utf8_acceptRanges), ("unicode.White_Space", laid_unicode_White_Space), ("strings.asciiSpace", laid_strings_asciiSpace), ("unicode.CaseRanges", laid_unicode_CaseRanges), ("unicode/utf8.first", laid_unicode_utf8_first)], narrowed := true }
def FnParseControlRecordKeyTypeUptoSaid : Prop := fnParseControlRecordKeyTypeUptoRow.holds Tryd.pinned (OpenSpec.upto fnParseControlRecordKeyTypeSpec)

/-- 'laws.FnConfigSourceText', WHERE WHAT IT READS IS OF BULK AT MOST 1048576: true; the input reads as it did. -/
def fnConfigSourceTextUptoRow : OpenClaim := { program := "ytaihhpnfelobjaadoorr", sum := "c2355adde29fcd78e7ff019c04e25190a5a6331b6d86f52600c86341dd17dbd8", func := "pub-kmsg/laws.FnConfigSourceText", spec := "fnConfigSourceText", inPlace := ["internal/abi.NoEscape", "internal/bytealg.MakeNoZero"], unfollowed := true, recurses := true, named := ["strings.asciiSpace", "unicode/utf8.first", "unicode/utf8.acceptRanges", "unicode.White_Space", "unicode.CaseRanges"], apart := false, laid := [("unicode/utf8.acceptRanges", laid_unicode_utf8_acceptRanges), ("unicode.White_Space", laid_unicode_White_Space), ("strings.asciiSpace", laid_strings_asciiSpace), ("unicode.CaseRanges", laid_unicode_CaseRanges), ("unicode/utf8.first", laid_unicode_utf8_first)], narrowed := true }
def FnConfigSourceTextUptoSaid : Prop := fnConfigSourceTextUptoRow.holds Tryd.pinned (OpenSpec.upto fnConfigSourceTextSpec)

/-- 'laws.FnAgainUpdateMetadataResponse', WHERE WHAT IT READS IS OF BULK AT MOST 1048576: true; the input reads as it did. -/
def fnAgainUpdateMetadataResponseUptoRow : OpenClaim := { program := "ytaihhpnfelobjaadoorr", sum := "c2355adde29fcd78e7ff019c04e25190a5a6331b6d86f52600c86341dd17dbd8", func := "pub-kmsg/laws.FnAgainUpdateMetadataResponse", spec := "fnAgainUpdateMetadataResponse", inPlace := ["internal/reflectlite.ValueOf", "internal/reflectlite.Swapper", "(internal/reflectlite.Value).Len"], unfollowed := true, recurses := true, named := ["encoding/binary.BigEndian", "pub-kmsg/pub/kmsg/inner/kbin.ErrNotEnoughData"], loops := true, apart := false, laid := [("pub-kmsg/pub/kmsg/inner/kbin.ErrNotEnoughData", laid_pub_kmsg_pub_kmsg_inner_kbin_ErrNotEnoughData)], narrowed := true }
def FnAgainUpdateMetadataResponseUptoSaid : Prop := fnAgainUpdateMetadataResponseUptoRow.holds Tryd.pinned (OpenSpec.upto fnAgainUpdateMetadataResponseSpec)

/-- 'laws.FnAgainDescribeClusterRequest', WHERE WHAT IT READS IS OF BULK AT MOST 1048576: true; the input reads as it did. -/
def fnAgainDescribeClusterRequestUptoRow : OpenClaim := { program := "ytaihhpnfelobjaadoorr", sum := "c2355adde29fcd78e7ff019c04e25190a5a6331b6d86f52600c86341dd17dbd8", func := "pub-kmsg/laws.FnAgainDescribeClusterRequest", spec := "fnAgainDescribeClusterRequest", inPlace := ["internal/reflectlite.ValueOf", "internal/reflectlite.Swapper", "(internal/reflectlite.Value).Len"], unfollowed := true, recurses := true, named := ["pub-kmsg/pub/kmsg/inner/kbin.ErrNotEnoughData"], loops := true, apart := false, laid := [("pub-kmsg/pub/kmsg/inner/kbin.ErrNotEnoughData", laid_pub_kmsg_pub_kmsg_inner_kbin_ErrNotEnoughData)], narrowed := true }
def FnAgainDescribeClusterRequestUptoSaid : Prop := fnAgainDescribeClusterRequestUptoRow.holds Tryd.pinned (OpenSpec.upto fnAgainDescribeClusterRequestSpec)

/-- 'laws.FnAnySASLAuthenticateRequest', WHERE WHAT IT READS IS OF BULK AT MOST 1048576: true; the input reads as it did. -/
def fnAnySASLAuthenticateRequestUptoRow : OpenClaim := { program := "ytaihhpnfelobjaadoorr", sum := "c2355adde29fcd78e7ff019c04e25190a5a6331b6d86f52600c86341dd17dbd8", func := "pub-kmsg/laws.FnAnySASLAuthenticateRequest", spec := "fnAnySASLAuthenticateRequest", inPlace := ["internal/reflectlite.ValueOf", "internal/reflectlite.Swapper", "(internal/reflectlite.Value).Len"], unfollowed := true, recurses := true, named := ["encoding/binary.BigEndian", "pub-kmsg/pub/kmsg/inner/kbin.ErrNotEnoughData"], apart := false, laid := [("pub-kmsg/pub/kmsg/inner/kbin.ErrNotEnoughData", laid_pub_kmsg_pub_kmsg_inner_kbin_ErrNotEnoughData)], narrowed := true }
def FnAnySASLAuthenticateRequestUptoSaid : Prop := fnAnySASLAuthenticateRequestUptoRow.holds Tryd.pinned (OpenSpec.upto fnAnySASLAuthenticateRequestSpec)

/-- 'laws.FnCutBrokerHeartbeatResponse', WHERE WHAT IT READS IS OF BULK AT MOST 1048576: true; the input reads as it did. -/
def fnCutBrokerHeartbeatResponseUptoRow : OpenClaim := { program := "ytaihhpnfelobjaadoorr", sum := "c2355adde29fcd78e7ff019c04e25190a5a6331b6d86f52600c86341dd17dbd8", func := "pub-kmsg/laws.FnCutBrokerHeartbeatResponse", spec := "fnCutBrokerHeartbeatResponse", inPlace := ["internal/reflectlite.ValueOf", "internal/reflectlite.Swapper", "(internal/reflectlite.Value).Len"], unfollowed := true, recurses := true, named := ["encoding/binary.BigEndian", "pub-kmsg/pub/kmsg/inner/kbin.ErrNotEnoughData"], loops := true, apart := false, laid := [("pub-kmsg/pub/kmsg/inner/kbin.ErrNotEnoughData", laid_pub_kmsg_pub_kmsg_inner_kbin_ErrNotEnoughData)], narrowed := true }
def FnCutBrokerHeartbeatResponseUptoSaid : Prop := fnCutBrokerHeartbeatResponseUptoRow.holds Tryd.pinned (OpenSpec.upto fnCutBrokerHeartbeatResponseSpec)

/-- 'laws.FnAnyAllocateProducerIDsResponse', WHERE WHAT IT READS IS OF BULK AT MOST 1048576: true; the input reads as it did. -/
def fnAnyAllocateProducerIDsResponseUptoRow : OpenClaim := { program := "ytaihhpnfelobjaadoorr", sum := "c2355adde29fcd78e7ff019c04e25190a5a6331b6d86f52600c86341dd17dbd8", func := "pub-kmsg/laws.FnAnyAllocateProducerIDsResponse", spec := "fnAnyAllocateProducerIDsResponse", inPlace := ["internal/reflectlite.ValueOf", "internal/reflectlite.Swapper", "(internal/reflectlite.Value).Len"], unfollowed := true, recurses := true, named := ["encoding/binary.BigEndian", "pub-kmsg/pub/kmsg/inner/kbin.ErrNotEnoughData"], apart := false, laid := [("pub-kmsg/pub/kmsg/inner/kbin.ErrNotEnoughData", laid_pub_kmsg_pub_kmsg_inner_kbin_ErrNotEnoughData)], narrowed := true }
def FnAnyAllocateProducerIDsResponseUptoSaid : Prop := fnAnyAllocateProducerIDsResponseUptoRow.holds Tryd.pinned (OpenSpec.upto fnAnyAllocateProducerIDsResponseSpec)

/-- 'laws.FnCutExpireDelegationTokenRequest', WHERE WHAT IT READS IS OF BULK AT MOST 1048576: true; the input reads as it did. -/
def fnCutExpireDelegationTokenRequestUptoRow : OpenClaim := { program := "ytaihhpnfelobjaadoorr", sum := "c2355adde29fcd78e7ff019c04e25190a5a6331b6d86f52600c86341dd17dbd8", func := "pub-kmsg/laws.FnCutExpireDelegationTokenRequest", spec := "fnCutExpireDelegationTokenRequest", inPlace := ["internal/reflectlite.ValueOf", "internal/reflectlite.Swapper", "(internal/reflectlite.Value).Len"], unfollowed := true, recurses := true, named := ["encoding/binary.BigEndian", "pub-kmsg/pub/kmsg/inner/kbin.ErrNotEnoughData"], loops := true, apart := false, laid := [("pub-kmsg/pub/kmsg/inner/kbin.ErrNotEnoughData", laid_pub_kmsg_pub_kmsg_inner_kbin_ErrNotEnoughData)], narrowed := true }
def FnCutExpireDelegationTokenRequestUptoSaid : Prop := fnCutExpireDelegationTokenRequestUptoRow.holds Tryd.pinned (OpenSpec.upto fnCutExpireDelegationTokenRequestSpec)

end Rows
end Go.Proofs.YtaihhpnfelobjaaDoorR
