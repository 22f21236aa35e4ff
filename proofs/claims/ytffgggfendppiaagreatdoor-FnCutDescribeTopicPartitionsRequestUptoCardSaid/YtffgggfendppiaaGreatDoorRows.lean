/-
  NARROWER THAN 'FOR EVERY INPUT', by the rows' own cells (each row's printed sentence says how): FnAgainAlterConfigsResponse: loops, laid · FnCutIncrementalAlterConfigsRequest: loops, laid · FnCutDescribeConfigsResponse: loops, laid · FnCutDescribeTopicPartitionsRequest: loops, laid · FnCutVoteRequest: loops, laid · FnAgainAssignReplicasToDirsRequest: loops, laid.
  DERIVED. THE GIVEN ROWS OF THIS SEAT. 6 by the template 'for every input the law returns true; each argument reads behind the call as it read before'; 0 by the template 'total and deterministic' (their statements: YtffgggfendppiaaGreatDoorTotals.lean).
  GIVEN WITH THE SEED: the statements are not yours to turn. If you find one false, say at which input.
  Laid BY PROGRAM, IN A SANDBOX (cutbox-rows.mjs): the forced cells as the released guide's own fill.sh prints them over the translation e37808938dc62d81… (all of the seat's roots in one cut). By AI agents, Wed Nov 11 2026. No macro, syntax, notation, axiom, sorry.
-/
import Derived.Test.YtffgggfendppiaaGreatDoorChecked
import GoSem.Claim
import GoSem.ClaimJoined
import GoSem.ClaimMapViews
import Derived.JoinedTies
import Derived.KernelRfl
namespace Go.Proofs.YtffgggfendppiaaGreatDoor
/- THE CELL 'sum', in the pinned program and in every row, IS THE sha256 OF THE DUMP (.gsa) THAT YtffgggfendppiaaGreatDoorProg.lean LOADS. Nothing in Lean hashes anything: it is a label: what it is worth is what the hold of that sum in a sandbox is worth. -/
noncomputable def Tryz.pinned : Pinned := { name := "ytffgggfendppiaagreatdoor", sum := "e37808938dc62d81e13149dca24455aa8d1641ca6084f4ed72ff823ff79795df", checked := Tryz.checked }
namespace Rows
def none {H : Type} : Left H := { results := [], args := [] }

/- WHAT THE LISTED PACKAGE-LEVEL VARIABLES READ AS WHEN THE CALL BEGINS. Each datum BY PROGRAM (the guide's laid-datum.mjs) off the statement by which the dump's own 'gosem.cut.vars' lays the variable. In a bare row this is a premise. The card (YtffgggfendppiaaGreatDoorCards.lean) ties it to the program's text. -/
def laid_pub_kmsg_pub_kmsg_inner_kbin_ErrNotEnoughData {H : Type} : DataW H := .iface "*errors.errorString" (.ptr (.agg [.lit (.string [114, 101, 115, 112, 111, 110, 115, 101, 32, 100, 105, 100, 32, 110, 111, 116, 32, 99, 111, 110, 116, 97, 105, 110, 32, 101, 110, 111, 117, 103, 104, 32, 100, 97, 116, 97, 32, 116, 111, 32, 98, 101, 32, 118, 97, 108, 105, 100])]))

/-- 'laws.FnAgainAlterConfigsResponse': WHATEVER THE INPUT: true; the input reads as it did. -/
def fnAgainAlterConfigsResponseSpec : ChangeSpec := { name := "fnAgainAlterConfigsResponse", fn := fun _ => fun
  | [d1, d2] => { results := [.lit (.bool true)], args := [d1, d2] }
  | _ => none }
def fnAgainAlterConfigsResponseRow : OpenClaim := { program := "ytffgggfendppiaagreatdoor", sum := "e37808938dc62d81e13149dca24455aa8d1641ca6084f4ed72ff823ff79795df", func := "pub-kmsg/laws.FnAgainAlterConfigsResponse", spec := "fnAgainAlterConfigsResponse", inPlace := ["internal/reflectlite.ValueOf", "internal/reflectlite.Swapper", "(internal/reflectlite.Value).Len"], unfollowed := true, recurses := true, named := ["encoding/binary.BigEndian", "pub-kmsg/pub/kmsg/inner/kbin.ErrNotEnoughData"], loops := true, apart := false, laid := [("pub-kmsg/pub/kmsg/inner/kbin.ErrNotEnoughData", laid_pub_kmsg_pub_kmsg_inner_kbin_ErrNotEnoughData)] }
def FnAgainAlterConfigsResponseSaid : Prop := fnAgainAlterConfigsResponseRow.holds Tryz.pinned (OpenSpec.ofChange fnAgainAlterConfigsResponseSpec)

/-- ITS FALSE NEIGHBOUR: 'it returns false'. Refute it at one input. -/
def fnAgainAlterConfigsResponseWrong : ChangeSpec := { name := "fnAgainAlterConfigsResponse", fn := fun _ => fun
  | [d1, d2] => { results := [.lit (.bool false)], args := [d1, d2] }
  | _ => none }
def FnAgainAlterConfigsResponseWrongFalsely : Prop := fnAgainAlterConfigsResponseRow.holds Tryz.pinned (OpenSpec.ofChange fnAgainAlterConfigsResponseWrong)

/-- 'laws.FnCutIncrementalAlterConfigsRequest': WHATEVER THE INPUT: true; the input reads as it did. -/
def fnCutIncrementalAlterConfigsRequestSpec : ChangeSpec := { name := "fnCutIncrementalAlterConfigsRequest", fn := fun _ => fun
  | [d1, d2, d3] => { results := [.lit (.bool true)], args := [d1, d2, d3] }
  | _ => none }
def fnCutIncrementalAlterConfigsRequestRow : OpenClaim := { program := "ytffgggfendppiaagreatdoor", sum := "e37808938dc62d81e13149dca24455aa8d1641ca6084f4ed72ff823ff79795df", func := "pub-kmsg/laws.FnCutIncrementalAlterConfigsRequest", spec := "fnCutIncrementalAlterConfigsRequest", inPlace := ["internal/reflectlite.ValueOf", "internal/reflectlite.Swapper", "(internal/reflectlite.Value).Len"], unfollowed := true, recurses := true, named := ["encoding/binary.BigEndian", "pub-kmsg/pub/kmsg/inner/kbin.ErrNotEnoughData"], loops := true, apart := false, laid := [("pub-kmsg/pub/kmsg/inner/kbin.ErrNotEnoughData", laid_pub_kmsg_pub_kmsg_inner_kbin_ErrNotEnoughData)] }
def FnCutIncrementalAlterConfigsRequestSaid : Prop := fnCutIncrementalAlterConfigsRequestRow.holds Tryz.pinned (OpenSpec.ofChange fnCutIncrementalAlterConfigsRequestSpec)

/-- ITS FALSE NEIGHBOUR: 'it returns false'. Refute it at one input. -/
def fnCutIncrementalAlterConfigsRequestWrong : ChangeSpec := { name := "fnCutIncrementalAlterConfigsRequest", fn := fun _ => fun
  | [d1, d2, d3] => { results := [.lit (.bool false)], args := [d1, d2, d3] }
  | _ => none }
def FnCutIncrementalAlterConfigsRequestWrongFalsely : Prop := fnCutIncrementalAlterConfigsRequestRow.holds Tryz.pinned (OpenSpec.ofChange fnCutIncrementalAlterConfigsRequestWrong)

/-- 'laws.FnCutDescribeConfigsResponse': WHATEVER THE INPUT: true; the input reads as it did. -/
def fnCutDescribeConfigsResponseSpec : ChangeSpec := { name := "fnCutDescribeConfigsResponse", fn := fun _ => fun
  | [d1, d2, d3] => { results := [.lit (.bool true)], args := [d1, d2, d3] }
  | _ => none }
def fnCutDescribeConfigsResponseRow : OpenClaim := { program := "ytffgggfendppiaagreatdoor", sum := "e37808938dc62d81e13149dca24455aa8d1641ca6084f4ed72ff823ff79795df", func := "pub-kmsg/laws.FnCutDescribeConfigsResponse", spec := "fnCutDescribeConfigsResponse", inPlace := ["internal/reflectlite.ValueOf", "internal/reflectlite.Swapper", "(internal/reflectlite.Value).Len"], unfollowed := true, recurses := true, named := ["encoding/binary.BigEndian", "pub-kmsg/pub/kmsg/inner/kbin.ErrNotEnoughData"], loops := true, apart := false, laid := [("pub-kmsg/pub/kmsg/inner/kbin.ErrNotEnoughData", laid_pub_kmsg_pub_kmsg_inner_kbin_ErrNotEnoughData)] }
def FnCutDescribeConfigsResponseSaid : Prop := fnCutDescribeConfigsResponseRow.holds Tryz.pinned (OpenSpec.ofChange fnCutDescribeConfigsResponseSpec)

/-- ITS FALSE NEIGHBOUR: 'it returns false'. Refute it at one input. -/
def fnCutDescribeConfigsResponseWrong : ChangeSpec := { name := "fnCutDescribeConfigsResponse", fn := fun _ => fun
  | [d1, d2, d3] => { results := [.lit (.bool false)], args := [d1, d2, d3] }
  | _ => none }
def FnCutDescribeConfigsResponseWrongFalsely : Prop := fnCutDescribeConfigsResponseRow.holds Tryz.pinned (OpenSpec.ofChange fnCutDescribeConfigsResponseWrong)

/-- 'laws.FnCutDescribeTopicPartitionsRequest': WHATEVER THE INPUT: true; the input reads as it did. -/
def fnCutDescribeTopicPartitionsRequestSpec : ChangeSpec := { name := "fnCutDescribeTopicPartitionsRequest", fn := fun _ => fun
  | [d1, d2, d3] => { results := [.lit (.bool true)], args := [d1, d2, d3] }
  | _ => none }
def fnCutDescribeTopicPartitionsRequestRow : OpenClaim := { program := "ytffgggfendppiaagreatdoor", sum := "e37808938dc62d81e13149dca24455aa8d1641ca6084f4ed72ff823ff79795df", func := "pub-kmsg/laws.FnCutDescribeTopicPartitionsRequest", spec := "fnCutDescribeTopicPartitionsRequest", inPlace := ["internal/reflectlite.ValueOf", "internal/reflectlite.Swapper", "(internal/reflectlite.Value).Len"], unfollowed := true, recurses := true, named := ["encoding/binary.BigEndian", "pub-kmsg/pub/kmsg/inner/kbin.ErrNotEnoughData"], loops := true, apart := false, laid := [("pub-kmsg/pub/kmsg/inner/kbin.ErrNotEnoughData", laid_pub_kmsg_pub_kmsg_inner_kbin_ErrNotEnoughData)] }
def FnCutDescribeTopicPartitionsRequestSaid : Prop := fnCutDescribeTopicPartitionsRequestRow.holds Tryz.pinned (OpenSpec.ofChange fnCutDescribeTopicPartitionsRequestSpec)

/-- ITS FALSE NEIGHBOUR: 'it returns false'. Refute it at one input. -/
def fnCutDescribeTopicPartitionsRequestWrong : ChangeSpec := { name := "fnCutDescribeTopicPartitionsRequest", fn := fun _ => fun
  | [d1, d2, d3] => { results := [.lit (.bool false)], args := [d1, d2, d3] }
  | _ => none }
def FnCutDescribeTopicPartitionsRequestWrongFalsely : Prop := fnCutDescribeTopicPartitionsRequestRow.holds Tryz.pinned (OpenSpec.ofChange fnCutDescribeTopicPartitionsRequestWrong)

/-- 'laws.FnCutVoteRequest': WHATEVER THE INPUT: true; the input reads as it did. -/
def fnCutVoteRequestSpec : ChangeSpec := { name := "fnCutVoteRequest", fn := fun _ => fun
  | [d1, d2, d3] => { results := [.lit (.bool true)], args := [d1, d2, d3] }
  | _ => none }
def fnCutVoteRequestRow : OpenClaim := { program := "ytffgggfendppiaagreatdoor", sum := "e37808938dc62d81e13149dca24455aa8d1641ca6084f4ed72ff823ff79795df", func := "pub-kmsg/laws.FnCutVoteRequest", spec := "fnCutVoteRequest", inPlace := ["internal/reflectlite.ValueOf", "internal/reflectlite.Swapper", "(internal/reflectlite.Value).Len"], unfollowed := true, recurses := true, named := ["encoding/binary.BigEndian", "pub-kmsg/pub/kmsg/inner/kbin.ErrNotEnoughData"], loops := true, apart := false, laid := [("pub-kmsg/pub/kmsg/inner/kbin.ErrNotEnoughData", laid_pub_kmsg_pub_kmsg_inner_kbin_ErrNotEnoughData)] }
def FnCutVoteRequestSaid : Prop := fnCutVoteRequestRow.holds Tryz.pinned (OpenSpec.ofChange fnCutVoteRequestSpec)

/-- ITS FALSE NEIGHBOUR: 'it returns false'. Refute it at one input. -/
def fnCutVoteRequestWrong : ChangeSpec := { name := "fnCutVoteRequest", fn := fun _ => fun
  | [d1, d2, d3] => { results := [.lit (.bool false)], args := [d1, d2, d3] }
  | _ => none }
def FnCutVoteRequestWrongFalsely : Prop := fnCutVoteRequestRow.holds Tryz.pinned (OpenSpec.ofChange fnCutVoteRequestWrong)

/-- 'laws.FnAgainAssignReplicasToDirsRequest': WHATEVER THE INPUT: true; the input reads as it did. -/
def fnAgainAssignReplicasToDirsRequestSpec : ChangeSpec := { name := "fnAgainAssignReplicasToDirsRequest", fn := fun _ => fun
  | [d1, d2] => { results := [.lit (.bool true)], args := [d1, d2] }
  | _ => none }
def fnAgainAssignReplicasToDirsRequestRow : OpenClaim := { program := "ytffgggfendppiaagreatdoor", sum := "e37808938dc62d81e13149dca24455aa8d1641ca6084f4ed72ff823ff79795df", func := "pub-kmsg/laws.FnAgainAssignReplicasToDirsRequest", spec := "fnAgainAssignReplicasToDirsRequest", inPlace := ["internal/reflectlite.ValueOf", "internal/reflectlite.Swapper", "(internal/reflectlite.Value).Len"], unfollowed := true, recurses := true, named := ["encoding/binary.BigEndian", "pub-kmsg/pub/kmsg/inner/kbin.ErrNotEnoughData"], loops := true, apart := false, laid := [("pub-kmsg/pub/kmsg/inner/kbin.ErrNotEnoughData", laid_pub_kmsg_pub_kmsg_inner_kbin_ErrNotEnoughData)] }
def FnAgainAssignReplicasToDirsRequestSaid : Prop := fnAgainAssignReplicasToDirsRequestRow.holds Tryz.pinned (OpenSpec.ofChange fnAgainAssignReplicasToDirsRequestSpec)

/-- ITS FALSE NEIGHBOUR: 'it returns false'. Refute it at one input. -/
def fnAgainAssignReplicasToDirsRequestWrong : ChangeSpec := { name := "fnAgainAssignReplicasToDirsRequest", fn := fun _ => fun
  | [d1, d2] => { results := [.lit (.bool false)], args := [d1, d2] }
  | _ => none }
def FnAgainAssignReplicasToDirsRequestWrongFalsely : Prop := fnAgainAssignReplicasToDirsRequestRow.holds Tryz.pinned (OpenSpec.ofChange fnAgainAssignReplicasToDirsRequestWrong)

/- THE SECOND FORM. 'bulk': how many values and letters a reading holds, each counted each time it is reached (what is shared counts as often as it is met; a slice's spare places count too). A statement '..UptoSaid' is the law's where the arguments, and the package variables that the reading takes, are together of bulk at most 1048576: NARROWER than '..Said'. Prove '..Said' where nothing that the law and all that it calls make is longer than what came in: it says more and counts as full. Else prove '..UptoSaid'. A law counts once. -/
mutual
def uptoBulk {H : Type} : DataW H → Nat
  | .lit (.string bytes) => bytes.length + 1
  | .lit _ => 1
  | .nil => 1
  | .ptr d => uptoBulk d + 1
  | .slice elems spare => uptoBulkAll elems + uptoBulkAll spare + 1
  | .agg parts => uptoBulkAll parts + 1
  | .iface _ d => uptoBulk d + 1
  | .map entries => uptoBulkEntries entries + 1
  | .held _ => 1
def uptoBulkAll {H : Type} : List (DataW H) → Nat
  | [] => 0
  | d :: r => uptoBulk d + uptoBulkAll r
def uptoBulkEntries {H : Type} : List (Lit × DataW H) → Nat
  | [] => 0
  | x :: r => uptoBulkEntry x + uptoBulkEntries r
def uptoBulkEntry {H : Type} : Lit × DataW H → Nat
  | (.string bytes, d) => bytes.length + uptoBulk d + 1
  | (_, d) => uptoBulk d + 1
 end
def uptoSmall : (H : Type) → List (DataW H) → Bool := fun _ ds => decide (uptoBulkAll ds ≤ 1048576)
def OpenSpec.upto (s : _root_.Go.ChangeSpec) : _root_.Go.OpenSpec := { _root_.Go.OpenSpec.ofChange s with cond := some uptoSmall }

/-- 'laws.FnAgainAlterConfigsResponse', WHERE WHAT IT READS IS OF BULK AT MOST 1048576: true; the input reads as it did. -/
def fnAgainAlterConfigsResponseUptoRow : OpenClaim := { program := "ytffgggfendppiaagreatdoor", sum := "e37808938dc62d81e13149dca24455aa8d1641ca6084f4ed72ff823ff79795df", func := "pub-kmsg/laws.FnAgainAlterConfigsResponse", spec := "fnAgainAlterConfigsResponse", inPlace := ["internal/reflectlite.ValueOf", "internal/reflectlite.Swapper", "(internal/reflectlite.Value).Len"], unfollowed := true, recurses := true, named := ["encoding/binary.BigEndian", "pub-kmsg/pub/kmsg/inner/kbin.ErrNotEnoughData"], loops := true, apart := false, laid := [("pub-kmsg/pub/kmsg/inner/kbin.ErrNotEnoughData", laid_pub_kmsg_pub_kmsg_inner_kbin_ErrNotEnoughData)], narrowed := true }
def FnAgainAlterConfigsResponseUptoSaid : Prop := fnAgainAlterConfigsResponseUptoRow.holds Tryz.pinned (OpenSpec.upto fnAgainAlterConfigsResponseSpec)

/-- 'laws.FnCutIncrementalAlterConfigsRequest', WHERE WHAT IT READS IS OF BULK AT MOST 1048576: true; the input reads as it did. -/
def fnCutIncrementalAlterConfigsRequestUptoRow : OpenClaim := { program := "ytffgggfendppiaagreatdoor", sum := "e37808938dc62d81e13149dca24455aa8d1641ca6084f4ed72ff823ff79795df", func := "pub-kmsg/laws.FnCutIncrementalAlterConfigsRequest", spec := "fnCutIncrementalAlterConfigsRequest", inPlace := ["internal/reflectlite.ValueOf", "internal/reflectlite.Swapper", "(internal/reflectlite.Value).Len"], unfollowed := true, recurses := true, named := ["encoding/binary.BigEndian", "pub-kmsg/pub/kmsg/inner/kbin.ErrNotEnoughData"], loops := true, apart := false, laid := [("pub-kmsg/pub/kmsg/inner/kbin.ErrNotEnoughData", laid_pub_kmsg_pub_kmsg_inner_kbin_ErrNotEnoughData)], narrowed := true }
def FnCutIncrementalAlterConfigsRequestUptoSaid : Prop := fnCutIncrementalAlterConfigsRequestUptoRow.holds Tryz.pinned (OpenSpec.upto fnCutIncrementalAlterConfigsRequestSpec)

/-- 'laws.FnCutDescribeConfigsResponse', WHERE WHAT IT READS IS OF BULK AT MOST 1048576: true; the input reads as it did. -/
def fnCutDescribeConfigsResponseUptoRow : OpenClaim := { program := "ytffgggfendppiaagreatdoor", sum := "e37808938dc62d81e13149dca24455aa8d1641ca6084f4ed72ff823ff79795df", func := "pub-kmsg/laws.FnCutDescribeConfigsResponse", spec := "fnCutDescribeConfigsResponse", inPlace := ["internal/reflectlite.ValueOf", "internal/reflectlite.Swapper", "(internal/reflectlite.Value).Len"], unfollowed := true, recurses := true, named := ["encoding/binary.BigEndian", "pub-kmsg/pub/kmsg/inner/kbin.ErrNotEnoughData"], loops := true, apart := false, laid := [("pub-kmsg/pub/kmsg/inner/kbin.ErrNotEnoughData", laid_pub_kmsg_pub_kmsg_inner_kbin_ErrNotEnoughData)], narrowed := true }
def FnCutDescribeConfigsResponseUptoSaid : Prop := fnCutDescribeConfigsResponseUptoRow.holds Tryz.pinned (OpenSpec.upto fnCutDescribeConfigsResponseSpec)

/-- 'laws.FnCutDescribeTopicPartitionsRequest', WHERE WHAT IT READS IS OF BULK AT MOST 1048576: true; the input reads as it did. -/
def fnCutDescribeTopicPartitionsRequestUptoRow : OpenClaim := { program := "ytffgggfendppiaagreatdoor", sum := "e37808938dc62d81e13149dca24455aa8d1641ca6084f4ed72ff823ff79795df", func := "pub-kmsg/laws.FnCutDescribeTopicPartitionsRequest", spec := "fnCutDescribeTopicPartitionsRequest", inPlace := ["internal/reflectlite.ValueOf", "internal/reflectlite.Swapper", "(internal/reflectlite.Value).Len"], unfollowed := true, recurses := true, named := ["encoding/binary.BigEndian", "pub-kmsg/pub/kmsg/inner/kbin.ErrNotEnoughData"], loops := true, apart := false, laid := [("pub-kmsg/pub/kmsg/inner/kbin.ErrNotEnoughData", laid_pub_kmsg_pub_kmsg_inner_kbin_ErrNotEnoughData)], narrowed := true }
def FnCutDescribeTopicPartitionsRequestUptoSaid : Prop := fnCutDescribeTopicPartitionsRequestUptoRow.holds Tryz.pinned (OpenSpec.upto fnCutDescribeTopicPartitionsRequestSpec)

/-- 'laws.FnCutVoteRequest', WHERE WHAT IT READS IS OF BULK AT MOST 1048576: true; the input reads as it did. -/
def fnCutVoteRequestUptoRow : OpenClaim := { program := "ytffgggfendppiaagreatdoor", sum := "e37808938dc62d81e13149dca24455aa8d1641ca6084f4ed72ff823ff79795df", func := "pub-kmsg/laws.FnCutVoteRequest", spec := "fnCutVoteRequest", inPlace := ["internal/reflectlite.ValueOf", "internal/reflectlite.Swapper", "(internal/reflectlite.Value).Len"], unfollowed := true, recurses := true, named := ["encoding/binary.BigEndian", "pub-kmsg/pub/kmsg/inner/kbin.ErrNotEnoughData"], loops := true, apart := false, laid := [("pub-kmsg/pub/kmsg/inner/kbin.ErrNotEnoughData", laid_pub_kmsg_pub_kmsg_inner_kbin_ErrNotEnoughData)], narrowed := true }
def FnCutVoteRequestUptoSaid : Prop := fnCutVoteRequestUptoRow.holds Tryz.pinned (OpenSpec.upto fnCutVoteRequestSpec)

/-- 'laws.FnAgainAssignReplicasToDirsRequest', WHERE WHAT IT READS IS OF BULK AT MOST 1048576: true; the input reads as it did. -/
def fnAgainAssignReplicasToDirsRequestUptoRow : OpenClaim := { program := "ytffgggfendppiaagreatdoor", sum := "e37808938dc62d81e13149dca24455aa8d1641ca6084f4ed72ff823ff79795df", func := "pub-kmsg/laws.FnAgainAssignReplicasToDirsRequest", spec := "fnAgainAssignReplicasToDirsRequest", inPlace := ["internal/reflectlite.ValueOf", "internal/reflectlite.Swapper", "(internal/reflectlite.Value).Len"], unfollowed := true, recurses := true, named := ["encoding/binary.BigEndian", "pub-kmsg/pub/kmsg/inner/kbin.ErrNotEnoughData"], loops := true, apart := false, laid := [("pub-kmsg/pub/kmsg/inner/kbin.ErrNotEnoughData", laid_pub_kmsg_pub_kmsg_inner_kbin_ErrNotEnoughData)], narrowed := true }
def FnAgainAssignReplicasToDirsRequestUptoSaid : Prop := fnAgainAssignReplicasToDirsRequestUptoRow.holds Tryz.pinned (OpenSpec.upto fnAgainAssignReplicasToDirsRequestSpec)

end Rows
end Go.Proofs.YtffgggfendppiaaGreatDoor
