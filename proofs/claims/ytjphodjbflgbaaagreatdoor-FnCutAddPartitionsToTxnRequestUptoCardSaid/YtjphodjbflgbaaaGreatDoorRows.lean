/-
  NARROWER THAN 'FOR EVERY INPUT', by the rows' own cells (each row's printed sentence says how): FnAgainControlledShutdownResponse: loops, laid · FnCutDeleteShareGroupOffsetsRequest: loops, laid · FnCutListConfigResourcesResponse: loops, laid · FnCutCreateACLsResponse: loops, laid · FnAgainDescribeQuorumRequest: loops, laid · FnCutAddPartitionsToTxnRequest: loops, laid.
  DERIVED. THE GIVEN ROWS OF THIS SEAT. 6 by the template 'for every input the law returns true; each argument reads behind the call as it read before'; 0 by the template 'total and deterministic' (their statements: YtjphodjbflgbaaaGreatDoorTotals.lean).
  GIVEN WITH THE SEED: the statements are not yours to turn. If you find one false, say at which input.
  Laid BY PROGRAM, IN A SANDBOX (cutbox-rows.mjs): the forced cells as the released guide's own fill.sh prints them over the translation e22b6e9d907f5944… (all of the seat's roots in one cut). By AI agents, Wed Nov 11 2026. No macro, syntax, notation, axiom, sorry.
-/
import Derived.Test.YtjphodjbflgbaaaGreatDoorChecked
import GoSem.Claim
import GoSem.ClaimJoined
import GoSem.ClaimMapViews
import Derived.JoinedTies
import Derived.KernelRfl
namespace Go.Proofs.YtjphodjbflgbaaaGreatDoor
/- THE CELL 'sum', in the pinned program and in every row, IS THE sha256 OF THE DUMP (.gsa) THAT YtjphodjbflgbaaaGreatDoorProg.lean LOADS. Nothing in Lean hashes anything: it is a label: what it is worth is what the hold of that sum in a sandbox is worth. -/
noncomputable def Tryz.pinned : Pinned := { name := "ytjphodjbflgbaaagreatdoor", sum := "e22b6e9d907f5944fdb702f8a336ac07c473dc5ddfa27a30932a535242b6285e", checked := Tryz.checked }
namespace Rows
def none {H : Type} : Left H := { results := [], args := [] }

/- WHAT THE LISTED PACKAGE-LEVEL VARIABLES READ AS WHEN THE CALL BEGINS. Each datum BY PROGRAM (the guide's laid-datum.mjs) off the statement by which the dump's own 'gosem.cut.vars' lays the variable. In a bare row this is a premise. The card (YtjphodjbflgbaaaGreatDoorCards.lean) ties it to the program's text. -/
def laid_pub_kmsg_pub_kmsg_inner_kbin_ErrNotEnoughData {H : Type} : DataW H := .iface "*errors.errorString" (.ptr (.agg [.lit (.string [114, 101, 115, 112, 111, 110, 115, 101, 32, 100, 105, 100, 32, 110, 111, 116, 32, 99, 111, 110, 116, 97, 105, 110, 32, 101, 110, 111, 117, 103, 104, 32, 100, 97, 116, 97, 32, 116, 111, 32, 98, 101, 32, 118, 97, 108, 105, 100])]))

/-- 'laws.FnAgainControlledShutdownResponse': WHATEVER THE INPUT: true; the input reads as it did. -/
def fnAgainControlledShutdownResponseSpec : ChangeSpec := { name := "fnAgainControlledShutdownResponse", fn := fun _ => fun
  | [d1, d2] => { results := [.lit (.bool true)], args := [d1, d2] }
  | _ => none }
def fnAgainControlledShutdownResponseRow : OpenClaim := { program := "ytjphodjbflgbaaagreatdoor", sum := "e22b6e9d907f5944fdb702f8a336ac07c473dc5ddfa27a30932a535242b6285e", func := "pub-kmsg/laws.FnAgainControlledShutdownResponse", spec := "fnAgainControlledShutdownResponse", inPlace := ["internal/reflectlite.ValueOf", "internal/reflectlite.Swapper", "(internal/reflectlite.Value).Len"], unfollowed := true, recurses := true, named := ["encoding/binary.BigEndian", "pub-kmsg/pub/kmsg/inner/kbin.ErrNotEnoughData"], loops := true, apart := false, laid := [("pub-kmsg/pub/kmsg/inner/kbin.ErrNotEnoughData", laid_pub_kmsg_pub_kmsg_inner_kbin_ErrNotEnoughData)] }
def FnAgainControlledShutdownResponseSaid : Prop := fnAgainControlledShutdownResponseRow.holds Tryz.pinned (OpenSpec.ofChange fnAgainControlledShutdownResponseSpec)

/-- ITS FALSE NEIGHBOUR: 'it returns false'. Refute it at one input. -/
def fnAgainControlledShutdownResponseWrong : ChangeSpec := { name := "fnAgainControlledShutdownResponse", fn := fun _ => fun
  | [d1, d2] => { results := [.lit (.bool false)], args := [d1, d2] }
  | _ => none }
def FnAgainControlledShutdownResponseWrongFalsely : Prop := fnAgainControlledShutdownResponseRow.holds Tryz.pinned (OpenSpec.ofChange fnAgainControlledShutdownResponseWrong)

/-- 'laws.FnCutDeleteShareGroupOffsetsRequest': WHATEVER THE INPUT: true; the input reads as it did. -/
def fnCutDeleteShareGroupOffsetsRequestSpec : ChangeSpec := { name := "fnCutDeleteShareGroupOffsetsRequest", fn := fun _ => fun
  | [d1, d2, d3] => { results := [.lit (.bool true)], args := [d1, d2, d3] }
  | _ => none }
def fnCutDeleteShareGroupOffsetsRequestRow : OpenClaim := { program := "ytjphodjbflgbaaagreatdoor", sum := "e22b6e9d907f5944fdb702f8a336ac07c473dc5ddfa27a30932a535242b6285e", func := "pub-kmsg/laws.FnCutDeleteShareGroupOffsetsRequest", spec := "fnCutDeleteShareGroupOffsetsRequest", inPlace := ["internal/reflectlite.ValueOf", "internal/reflectlite.Swapper", "(internal/reflectlite.Value).Len"], unfollowed := true, recurses := true, named := ["encoding/binary.BigEndian", "pub-kmsg/pub/kmsg/inner/kbin.ErrNotEnoughData"], loops := true, apart := false, laid := [("pub-kmsg/pub/kmsg/inner/kbin.ErrNotEnoughData", laid_pub_kmsg_pub_kmsg_inner_kbin_ErrNotEnoughData)] }
def FnCutDeleteShareGroupOffsetsRequestSaid : Prop := fnCutDeleteShareGroupOffsetsRequestRow.holds Tryz.pinned (OpenSpec.ofChange fnCutDeleteShareGroupOffsetsRequestSpec)

/-- ITS FALSE NEIGHBOUR: 'it returns false'. Refute it at one input. -/
def fnCutDeleteShareGroupOffsetsRequestWrong : ChangeSpec := { name := "fnCutDeleteShareGroupOffsetsRequest", fn := fun _ => fun
  | [d1, d2, d3] => { results := [.lit (.bool false)], args := [d1, d2, d3] }
  | _ => none }
def FnCutDeleteShareGroupOffsetsRequestWrongFalsely : Prop := fnCutDeleteShareGroupOffsetsRequestRow.holds Tryz.pinned (OpenSpec.ofChange fnCutDeleteShareGroupOffsetsRequestWrong)

/-- 'laws.FnCutListConfigResourcesResponse': WHATEVER THE INPUT: true; the input reads as it did. -/
def fnCutListConfigResourcesResponseSpec : ChangeSpec := { name := "fnCutListConfigResourcesResponse", fn := fun _ => fun
  | [d1, d2, d3] => { results := [.lit (.bool true)], args := [d1, d2, d3] }
  | _ => none }
def fnCutListConfigResourcesResponseRow : OpenClaim := { program := "ytjphodjbflgbaaagreatdoor", sum := "e22b6e9d907f5944fdb702f8a336ac07c473dc5ddfa27a30932a535242b6285e", func := "pub-kmsg/laws.FnCutListConfigResourcesResponse", spec := "fnCutListConfigResourcesResponse", inPlace := ["internal/reflectlite.ValueOf", "internal/reflectlite.Swapper", "(internal/reflectlite.Value).Len"], unfollowed := true, recurses := true, named := ["encoding/binary.BigEndian", "pub-kmsg/pub/kmsg/inner/kbin.ErrNotEnoughData"], loops := true, apart := false, laid := [("pub-kmsg/pub/kmsg/inner/kbin.ErrNotEnoughData", laid_pub_kmsg_pub_kmsg_inner_kbin_ErrNotEnoughData)] }
def FnCutListConfigResourcesResponseSaid : Prop := fnCutListConfigResourcesResponseRow.holds Tryz.pinned (OpenSpec.ofChange fnCutListConfigResourcesResponseSpec)

/-- ITS FALSE NEIGHBOUR: 'it returns false'. Refute it at one input. -/
def fnCutListConfigResourcesResponseWrong : ChangeSpec := { name := "fnCutListConfigResourcesResponse", fn := fun _ => fun
  | [d1, d2, d3] => { results := [.lit (.bool false)], args := [d1, d2, d3] }
  | _ => none }
def FnCutListConfigResourcesResponseWrongFalsely : Prop := fnCutListConfigResourcesResponseRow.holds Tryz.pinned (OpenSpec.ofChange fnCutListConfigResourcesResponseWrong)

/-- 'laws.FnCutCreateACLsResponse': WHATEVER THE INPUT: true; the input reads as it did. -/
def fnCutCreateACLsResponseSpec : ChangeSpec := { name := "fnCutCreateACLsResponse", fn := fun _ => fun
  | [d1, d2, d3] => { results := [.lit (.bool true)], args := [d1, d2, d3] }
  | _ => none }
def fnCutCreateACLsResponseRow : OpenClaim := { program := "ytjphodjbflgbaaagreatdoor", sum := "e22b6e9d907f5944fdb702f8a336ac07c473dc5ddfa27a30932a535242b6285e", func := "pub-kmsg/laws.FnCutCreateACLsResponse", spec := "fnCutCreateACLsResponse", inPlace := ["internal/reflectlite.ValueOf", "internal/reflectlite.Swapper", "(internal/reflectlite.Value).Len"], unfollowed := true, recurses := true, named := ["encoding/binary.BigEndian", "pub-kmsg/pub/kmsg/inner/kbin.ErrNotEnoughData"], loops := true, apart := false, laid := [("pub-kmsg/pub/kmsg/inner/kbin.ErrNotEnoughData", laid_pub_kmsg_pub_kmsg_inner_kbin_ErrNotEnoughData)] }
def FnCutCreateACLsResponseSaid : Prop := fnCutCreateACLsResponseRow.holds Tryz.pinned (OpenSpec.ofChange fnCutCreateACLsResponseSpec)

/-- ITS FALSE NEIGHBOUR: 'it returns false'. Refute it at one input. -/
def fnCutCreateACLsResponseWrong : ChangeSpec := { name := "fnCutCreateACLsResponse", fn := fun _ => fun
  | [d1, d2, d3] => { results := [.lit (.bool false)], args := [d1, d2, d3] }
  | _ => none }
def FnCutCreateACLsResponseWrongFalsely : Prop := fnCutCreateACLsResponseRow.holds Tryz.pinned (OpenSpec.ofChange fnCutCreateACLsResponseWrong)

/-- 'laws.FnAgainDescribeQuorumRequest': WHATEVER THE INPUT: true; the input reads as it did. -/
def fnAgainDescribeQuorumRequestSpec : ChangeSpec := { name := "fnAgainDescribeQuorumRequest", fn := fun _ => fun
  | [d1, d2] => { results := [.lit (.bool true)], args := [d1, d2] }
  | _ => none }
def fnAgainDescribeQuorumRequestRow : OpenClaim := { program := "ytjphodjbflgbaaagreatdoor", sum := "e22b6e9d907f5944fdb702f8a336ac07c473dc5ddfa27a30932a535242b6285e", func := "pub-kmsg/laws.FnAgainDescribeQuorumRequest", spec := "fnAgainDescribeQuorumRequest", inPlace := ["internal/reflectlite.ValueOf", "internal/reflectlite.Swapper", "(internal/reflectlite.Value).Len"], unfollowed := true, recurses := true, named := ["encoding/binary.BigEndian", "pub-kmsg/pub/kmsg/inner/kbin.ErrNotEnoughData"], loops := true, apart := false, laid := [("pub-kmsg/pub/kmsg/inner/kbin.ErrNotEnoughData", laid_pub_kmsg_pub_kmsg_inner_kbin_ErrNotEnoughData)] }
def FnAgainDescribeQuorumRequestSaid : Prop := fnAgainDescribeQuorumRequestRow.holds Tryz.pinned (OpenSpec.ofChange fnAgainDescribeQuorumRequestSpec)

/-- ITS FALSE NEIGHBOUR: 'it returns false'. Refute it at one input. -/
def fnAgainDescribeQuorumRequestWrong : ChangeSpec := { name := "fnAgainDescribeQuorumRequest", fn := fun _ => fun
  | [d1, d2] => { results := [.lit (.bool false)], args := [d1, d2] }
  | _ => none }
def FnAgainDescribeQuorumRequestWrongFalsely : Prop := fnAgainDescribeQuorumRequestRow.holds Tryz.pinned (OpenSpec.ofChange fnAgainDescribeQuorumRequestWrong)

/-- 'laws.FnCutAddPartitionsToTxnRequest': WHATEVER THE INPUT: true; the input reads as it did. -/
def fnCutAddPartitionsToTxnRequestSpec : ChangeSpec := { name := "fnCutAddPartitionsToTxnRequest", fn := fun _ => fun
  | [d1, d2, d3] => { results := [.lit (.bool true)], args := [d1, d2, d3] }
  | _ => none }
def fnCutAddPartitionsToTxnRequestRow : OpenClaim := { program := "ytjphodjbflgbaaagreatdoor", sum := "e22b6e9d907f5944fdb702f8a336ac07c473dc5ddfa27a30932a535242b6285e", func := "pub-kmsg/laws.FnCutAddPartitionsToTxnRequest", spec := "fnCutAddPartitionsToTxnRequest", inPlace := ["internal/reflectlite.ValueOf", "internal/reflectlite.Swapper", "(internal/reflectlite.Value).Len"], unfollowed := true, recurses := true, named := ["encoding/binary.BigEndian", "pub-kmsg/pub/kmsg/inner/kbin.ErrNotEnoughData"], loops := true, apart := false, laid := [("pub-kmsg/pub/kmsg/inner/kbin.ErrNotEnoughData", laid_pub_kmsg_pub_kmsg_inner_kbin_ErrNotEnoughData)] }
def FnCutAddPartitionsToTxnRequestSaid : Prop := fnCutAddPartitionsToTxnRequestRow.holds Tryz.pinned (OpenSpec.ofChange fnCutAddPartitionsToTxnRequestSpec)

/-- ITS FALSE NEIGHBOUR: 'it returns false'. Refute it at one input. -/
def fnCutAddPartitionsToTxnRequestWrong : ChangeSpec := { name := "fnCutAddPartitionsToTxnRequest", fn := fun _ => fun
  | [d1, d2, d3] => { results := [.lit (.bool false)], args := [d1, d2, d3] }
  | _ => none }
def FnCutAddPartitionsToTxnRequestWrongFalsely : Prop := fnCutAddPartitionsToTxnRequestRow.holds Tryz.pinned (OpenSpec.ofChange fnCutAddPartitionsToTxnRequestWrong)

/- THE SECOND FORM. 'bulk': how many values and letters a reading holds, each counted each time it is reached (what is shared counts as often as it is met; a slice's spare places count too). A statement '..UptoSaid' is the law's where the arguments, and the package variables that the reading takes, are together of bulk at most 1048576: NARROWER than '..Said'. Prove '..Said' where nothing that the law and all that it calls make is longer than what came in: it says more and counts as full. Else prove '..UptoSaid'. A law counts once. -/
mutual
def uptoBulk {H : Type} : DataW H → Nat
  | .lit (.string bytes) => bytes.length + 1
  | .lit _ => 1
  | .nil => 1
  | .ptr d => uptoBulk d + 1
  | .slice elems spare => uptoBulkAll elems + uptoBulkAll spare + 1
  | .agg parts => uptoBulkAll parts + 1
  | .iface _ d => uptoBulk d + 1
  | .map entries => uptoBulkEntries entries + 1
  | .held _ => 1
def uptoBulkAll {H : Type} : List (DataW H) → Nat
  | [] => 0
  | d :: r => uptoBulk d + uptoBulkAll r
def uptoBulkEntries {H : Type} : List (Lit × DataW H) → Nat
  | [] => 0
  | x :: r => uptoBulkEntry x + uptoBulkEntries r
def uptoBulkEntry {H : Type} : Lit × DataW H → Nat
  | (.string bytes, d) => bytes.length + uptoBulk d + 1
  | (_, d) => uptoBulk d + 1
 end
def uptoSmall : (H : Type) → List (DataW H) → Bool := fun _ ds => decide (uptoBulkAll ds ≤ 1048576)
def OpenSpec.upto (s : _root_.Go.ChangeSpec) : _root_.Go.OpenSpec := { _root_.Go.OpenSpec.ofChange s with cond := some uptoSmall }

/-- 'laws.FnAgainControlledShutdownResponse', WHERE WHAT IT READS IS OF BULK AT MOST 1048576: true; the input reads as it did. -/
def fnAgainControlledShutdownResponseUptoRow : OpenClaim := { program := "ytjphodjbflgbaaagreatdoor", sum := "e22b6e9d907f5944fdb702f8a336ac07c473dc5ddfa27a30932a535242b6285e", func := "pub-kmsg/laws.FnAgainControlledShutdownResponse", spec := "fnAgainControlledShutdownResponse", inPlace := ["internal/reflectlite.ValueOf", "internal/reflectlite.Swapper", "(internal/reflectlite.Value).Len"], unfollowed := true, recurses := true, named := ["encoding/binary.BigEndian", "pub-kmsg/pub/kmsg/inner/kbin.ErrNotEnoughData"], loops := true, apart := false, laid := [("pub-kmsg/pub/kmsg/inner/kbin.ErrNotEnoughData", laid_pub_kmsg_pub_kmsg_inner_kbin_ErrNotEnoughData)], narrowed := true }
def FnAgainControlledShutdownResponseUptoSaid : Prop := fnAgainControlledShutdownResponseUptoRow.holds Tryz.pinned (OpenSpec.upto fnAgainControlledShutdownResponseSpec)

/-- 'laws.FnCutDeleteShareGroupOffsetsRequest', WHERE WHAT IT READS IS OF BULK AT MOST 1048576: true; the input reads as it did. -/
def fnCutDeleteShareGroupOffsetsRequestUptoRow : OpenClaim := { program := "ytjphodjbflgbaaagreatdoor", sum := "e22b6e9d907f5944fdb702f8a336ac07c473dc5ddfa27a30932a535242b6285e", func := "pub-kmsg/laws.FnCutDeleteShareGroupOffsetsRequest", spec := "fnCutDeleteShareGroupOffsetsRequest", inPlace := ["internal/reflectlite.ValueOf", "internal/reflectlite.Swapper", "(internal/reflectlite.Value).Len"], unfollowed := true, recurses := true, named := ["encoding/binary.BigEndian", "pub-kmsg/pub/kmsg/inner/kbin.ErrNotEnoughData"], loops := true, apart := false, laid := [("pub-kmsg/pub/kmsg/inner/kbin.ErrNotEnoughData", laid_pub_kmsg_pub_kmsg_inner_kbin_ErrNotEnoughData)], narrowed := true }
def FnCutDeleteShareGroupOffsetsRequestUptoSaid : Prop := fnCutDeleteShareGroupOffsetsRequestUptoRow.holds Tryz.pinned (OpenSpec.upto fnCutDeleteShareGroupOffsetsRequestSpec)

/-- 'laws.FnCutListConfigResourcesResponse', WHERE WHAT IT READS IS OF BULK AT MOST 1048576: true; the input reads as it did. -/
def fnCutListConfigResourcesResponseUptoRow : OpenClaim := { program := "ytjphodjbflgbaaagreatdoor", sum := "e22b6e9d907f5944fdb702f8a336ac07c473dc5ddfa27a30932a535242b6285e", func := "pub-kmsg/laws.FnCutListConfigResourcesResponse", spec := "fnCutListConfigResourcesResponse", inPlace := ["internal/reflectlite.ValueOf", "internal/reflectlite.Swapper", "(internal/reflectlite.Value).Len"], unfollowed := true, recurses := true, named := ["encoding/binary.BigEndian", "pub-kmsg/pub/kmsg/inner/kbin.ErrNotEnoughData"], loops := true, apart := false, laid := [("pub-kmsg/pub/kmsg/inner/kbin.ErrNotEnoughData", laid_pub_kmsg_pub_kmsg_inner_kbin_ErrNotEnoughData)], narrowed := true }
def FnCutListConfigResourcesResponseUptoSaid : Prop := fnCutListConfigResourcesResponseUptoRow.holds Tryz.pinned (OpenSpec.upto fnCutListConfigResourcesResponseSpec)

/-- 'laws.FnCutCreateACLsResponse', WHERE WHAT IT READS IS OF BULK AT MOST 1048576: true; the input reads as it did. -/
def fnCutCreateACLsResponseUptoRow : OpenClaim := { program := "ytjphodjbflgbaaagreatdoor", sum := "e22b6e9d907f5944fdb702f8a336ac07c473dc5ddfa27a30932a535242b6285e", func := "pub-kmsg/laws.FnCutCreateACLsResponse", spec := "fnCutCreateACLsResponse", inPlace := ["internal/reflectlite.ValueOf", "internal/reflectlite.Swapper", "(internal/reflectlite.Value).Len"], unfollowed := true, recurses := true, named := ["encoding/binary.BigEndian", "pub-kmsg/pub/kmsg/inner/kbin.ErrNotEnoughData"], loops := true, apart := false, laid := [("pub-kmsg/pub/kmsg/inner/kbin.ErrNotEnoughData", laid_pub_kmsg_pub_kmsg_inner_kbin_ErrNotEnoughData)], narrowed := true }
def FnCutCreateACLsResponseUptoSaid : Prop := fnCutCreateACLsResponseUptoRow.holds Tryz.pinned (OpenSpec.upto fnCutCreateACLsResponseSpec)

/-- 'laws.FnAgainDescribeQuorumRequest', WHERE WHAT IT READS IS OF BULK AT MOST 1048576: true; the input reads as it did. -/
def fnAgainDescribeQuorumRequestUptoRow : OpenClaim := { program := "ytjphodjbflgbaaagreatdoor", sum := "e22b6e9d907f5944fdb702f8a336ac07c473dc5ddfa27a30932a535242b6285e", func := "pub-kmsg/laws.FnAgainDescribeQuorumRequest", spec := "fnAgainDescribeQuorumRequest", inPlace := ["internal/reflectlite.ValueOf", "internal/reflectlite.Swapper", "(internal/reflectlite.Value).Len"], unfollowed := true, recurses := true, named := ["encoding/binary.BigEndian", "pub-kmsg/pub/kmsg/inner/kbin.ErrNotEnoughData"], loops := true, apart := false, laid := [("pub-kmsg/pub/kmsg/inner/kbin.ErrNotEnoughData", laid_pub_kmsg_pub_kmsg_inner_kbin_ErrNotEnoughData)], narrowed := true }
def FnAgainDescribeQuorumRequestUptoSaid : Prop := fnAgainDescribeQuorumRequestUptoRow.holds Tryz.pinned (OpenSpec.upto fnAgainDescribeQuorumRequestSpec)

/-- 'laws.FnCutAddPartitionsToTxnRequest', WHERE WHAT IT READS IS OF BULK AT MOST 1048576: true; the input reads as it did. -/
def fnCutAddPartitionsToTxnRequestUptoRow : OpenClaim := { program := "ytjphodjbflgbaaagreatdoor", sum := "e22b6e9d907f5944fdb702f8a336ac07c473dc5ddfa27a30932a535242b6285e", func := "pub-kmsg/laws.FnCutAddPartitionsToTxnRequest", spec := "fnCutAddPartitionsToTxnRequest", inPlace := ["internal/reflectlite.ValueOf", "internal/reflectlite.Swapper", "(internal/reflectlite.Value).Len"], unfollowed := true, recurses := true, named := ["encoding/binary.BigEndian", "pub-kmsg/pub/kmsg/inner/kbin.ErrNotEnoughData"], loops := true, apart := false, laid := [("pub-kmsg/pub/kmsg/inner/kbin.ErrNotEnoughData", laid_pub_kmsg_pub_kmsg_inner_kbin_ErrNotEnoughData)], narrowed := true }
def FnCutAddPartitionsToTxnRequestUptoSaid : Prop := fnCutAddPartitionsToTxnRequestUptoRow.holds Tryz.pinned (OpenSpec.upto fnCutAddPartitionsToTxnRequestSpec)

end Rows
end Go.Proofs.YtjphodjbflgbaaaGreatDoor
