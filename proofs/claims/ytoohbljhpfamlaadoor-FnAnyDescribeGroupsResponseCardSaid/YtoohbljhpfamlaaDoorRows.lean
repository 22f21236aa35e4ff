/-
  NARROWER THAN 'FOR EVERY INPUT', by the rows' own cells (each row's printed sentence says how): FnAnyOffsetForLeaderEpochRequest: laid · FnAnyCreatePartitionsResponse: laid · FnAnyInitializeShareGroupStateRequest: laid · FnAnyDeleteTopicsRequest: laid · FnAnyWriteTxnMarkersRequest: laid · FnAnyAlterShareGroupOffsetsResponse: laid · FnAnyStopReplicaRequest: laid · FnAnyDescribeGroupsResponse: laid.
  DERIVED. THE GIVEN ROWS OF THIS SEAT. 8 by the template 'for every input the law returns true; each argument reads behind the call as it read before'; 0 by the template 'total and deterministic' (their statements: YtoohbljhpfamlaaDoorTotals.lean).
  GIVEN WITH THE SEED: the statements are not yours to turn. If you find one false, say at which input.
  Laid BY PROGRAM, IN A SANDBOX (cutbox-rows.mjs): the forced cells as the released guide's own fill.sh prints them over the translation a2b35e1d492d4f9c… (all of the seat's roots in one cut). By AI agents, Wed Nov 11 2026. No macro, syntax, notation, axiom, sorry.
-/
import Derived.Test.YtoohbljhpfamlaaDoorChecked
import GoSem.Claim
import GoSem.ClaimJoined
import GoSem.ClaimMapViews
import Derived.JoinedTies
import Derived.KernelRfl
namespace Go.Proofs.YtoohbljhpfamlaaDoor
/- THE CELL 'sum', in the pinned program and in every row, IS THE sha256 OF THE DUMP (.gsa) THAT YtoohbljhpfamlaaDoorProg.lean LOADS. Nothing in Lean hashes anything: it is a label: what it is worth is what the hold of that sum in a sandbox is worth. -/
noncomputable def Tryd.pinned : Pinned := { name := "ytoohbljhpfamlaadoor", sum := "a2b35e1d492d4f9c71f1a2e81aafaaf0f71d2b709d520327fb943a25ab0991a6", checked := Tryd.checked }
namespace Rows
def none {H : Type} : Left H := { results := [], args := [] }

/- WHAT THE LISTED PACKAGE-LEVEL VARIABLES READ AS WHEN THE CALL BEGINS. Each datum BY PROGRAM (the guide's laid-datum.mjs) off the statement by which the dump's own 'gosem.cut.vars' lays the variable. In a bare row this is a premise. The card (YtoohbljhpfamlaaDoorCards.lean) ties it to the program's text. -/
def laid_pub_kmsg_pub_kmsg_inner_kbin_ErrNotEnoughData {H : Type} : DataW H := .iface "*errors.errorString" (.ptr (.agg [.lit (.string [114, 101, 115, 112, 111, 110, 115, 101, 32, 100, 105, 100, 32, 110, 111, 116, 32, 99, 111, 110, 116, 97, 105, 110, 32, 101, 110, 111, 117, 103, 104, 32, 100, 97, 116, 97, 32, 116, 111, 32, 98, 101, 32, 118, 97, 108, 105, 100])]))

/-- 'laws.FnAnyOffsetForLeaderEpochRequest': WHATEVER THE INPUT: true; the input reads as it did. -/
def fnAnyOffsetForLeaderEpochRequestSpec : ChangeSpec := { name := "fnAnyOffsetForLeaderEpochRequest", fn := fun _ => fun
  | [d1, d2] => { results := [.lit (.bool true)], args := [d1, d2] }
  | _ => none }
def fnAnyOffsetForLeaderEpochRequestRow : OpenClaim := { program := "ytoohbljhpfamlaadoor", sum := "a2b35e1d492d4f9c71f1a2e81aafaaf0f71d2b709d520327fb943a25ab0991a6", func := "pub-kmsg/laws.FnAnyOffsetForLeaderEpochRequest", spec := "fnAnyOffsetForLeaderEpochRequest", inPlace := ["internal/reflectlite.ValueOf", "internal/reflectlite.Swapper", "(internal/reflectlite.Value).Len"], unfollowed := true, recurses := true, named := ["encoding/binary.BigEndian", "pub-kmsg/pub/kmsg/inner/kbin.ErrNotEnoughData"], apart := false, laid := [("pub-kmsg/pub/kmsg/inner/kbin.ErrNotEnoughData", laid_pub_kmsg_pub_kmsg_inner_kbin_ErrNotEnoughData)] }
def FnAnyOffsetForLeaderEpochRequestSaid : Prop := fnAnyOffsetForLeaderEpochRequestRow.holds Tryd.pinned (OpenSpec.ofChange fnAnyOffsetForLeaderEpochRequestSpec)

/-- ITS FALSE NEIGHBOUR: 'it returns false'. Refute it at one input. -/
def fnAnyOffsetForLeaderEpochRequestWrong : ChangeSpec := { name := "fnAnyOffsetForLeaderEpochRequest", fn := fun _ => fun
  | [d1, d2] => { results := [.lit (.bool false)], args := [d1, d2] }
  | _ => none }
def FnAnyOffsetForLeaderEpochRequestWrongFalsely : Prop := fnAnyOffsetForLeaderEpochRequestRow.holds Tryd.pinned (OpenSpec.ofChange fnAnyOffsetForLeaderEpochRequestWrong)

/-- 'laws.FnAnyCreatePartitionsResponse': WHATEVER THE INPUT: true; the input reads as it did. -/
def fnAnyCreatePartitionsResponseSpec : ChangeSpec := { name := "fnAnyCreatePartitionsResponse", fn := fun _ => fun
  | [d1, d2] => { results := [.lit (.bool true)], args := [d1, d2] }
  | _ => none }
def fnAnyCreatePartitionsResponseRow : OpenClaim := { program := "ytoohbljhpfamlaadoor", sum := "a2b35e1d492d4f9c71f1a2e81aafaaf0f71d2b709d520327fb943a25ab0991a6", func := "pub-kmsg/laws.FnAnyCreatePartitionsResponse", spec := "fnAnyCreatePartitionsResponse", inPlace := ["internal/reflectlite.ValueOf", "internal/reflectlite.Swapper", "(internal/reflectlite.Value).Len"], unfollowed := true, recurses := true, named := ["encoding/binary.BigEndian", "pub-kmsg/pub/kmsg/inner/kbin.ErrNotEnoughData"], apart := false, laid := [("pub-kmsg/pub/kmsg/inner/kbin.ErrNotEnoughData", laid_pub_kmsg_pub_kmsg_inner_kbin_ErrNotEnoughData)] }
def FnAnyCreatePartitionsResponseSaid : Prop := fnAnyCreatePartitionsResponseRow.holds Tryd.pinned (OpenSpec.ofChange fnAnyCreatePartitionsResponseSpec)

/-- ITS FALSE NEIGHBOUR: 'it returns false'. Refute it at one input. -/
def fnAnyCreatePartitionsResponseWrong : ChangeSpec := { name := "fnAnyCreatePartitionsResponse", fn := fun _ => fun
  | [d1, d2] => { results := [.lit (.bool false)], args := [d1, d2] }
  | _ => none }
def FnAnyCreatePartitionsResponseWrongFalsely : Prop := fnAnyCreatePartitionsResponseRow.holds Tryd.pinned (OpenSpec.ofChange fnAnyCreatePartitionsResponseWrong)

/-- 'laws.FnAnyInitializeShareGroupStateRequest': WHATEVER THE INPUT: true; the input reads as it did. -/
def fnAnyInitializeShareGroupStateRequestSpec : ChangeSpec := { name := "fnAnyInitializeShareGroupStateRequest", fn := fun _ => fun
  | [d1, d2] => { results := [.lit (.bool true)], args := [d1, d2] }
  | _ => none }
def fnAnyInitializeShareGroupStateRequestRow : OpenClaim := { program := "ytoohbljhpfamlaadoor", sum := "a2b35e1d492d4f9c71f1a2e81aafaaf0f71d2b709d520327fb943a25ab0991a6", func := "pub-kmsg/laws.FnAnyInitializeShareGroupStateRequest", spec := "fnAnyInitializeShareGroupStateRequest", inPlace := ["internal/reflectlite.ValueOf", "internal/reflectlite.Swapper", "(internal/reflectlite.Value).Len"], unfollowed := true, recurses := true, named := ["encoding/binary.BigEndian", "pub-kmsg/pub/kmsg/inner/kbin.ErrNotEnoughData"], apart := false, laid := [("pub-kmsg/pub/kmsg/inner/kbin.ErrNotEnoughData", laid_pub_kmsg_pub_kmsg_inner_kbin_ErrNotEnoughData)] }
def FnAnyInitializeShareGroupStateRequestSaid : Prop := fnAnyInitializeShareGroupStateRequestRow.holds Tryd.pinned (OpenSpec.ofChange fnAnyInitializeShareGroupStateRequestSpec)

/-- ITS FALSE NEIGHBOUR: 'it returns false'. Refute it at one input. -/
def fnAnyInitializeShareGroupStateRequestWrong : ChangeSpec := { name := "fnAnyInitializeShareGroupStateRequest", fn := fun _ => fun
  | [d1, d2] => { results := [.lit (.bool false)], args := [d1, d2] }
  | _ => none }
def FnAnyInitializeShareGroupStateRequestWrongFalsely : Prop := fnAnyInitializeShareGroupStateRequestRow.holds Tryd.pinned (OpenSpec.ofChange fnAnyInitializeShareGroupStateRequestWrong)

/-- 'laws.FnAnyDeleteTopicsRequest': WHATEVER THE INPUT: true; the input reads as it did. -/
def fnAnyDeleteTopicsRequestSpec : ChangeSpec := { name := "fnAnyDeleteTopicsRequest", fn := fun _ => fun
  | [d1, d2] => { results := [.lit (.bool true)], args := [d1, d2] }
  | _ => none }
def fnAnyDeleteTopicsRequestRow : OpenClaim := { program := "ytoohbljhpfamlaadoor", sum := "a2b35e1d492d4f9c71f1a2e81aafaaf0f71d2b709d520327fb943a25ab0991a6", func := "pub-kmsg/laws.FnAnyDeleteTopicsRequest", spec := "fnAnyDeleteTopicsRequest", inPlace := ["internal/reflectlite.ValueOf", "internal/reflectlite.Swapper", "(internal/reflectlite.Value).Len"], unfollowed := true, recurses := true, named := ["encoding/binary.BigEndian", "pub-kmsg/pub/kmsg/inner/kbin.ErrNotEnoughData"], apart := false, laid := [("pub-kmsg/pub/kmsg/inner/kbin.ErrNotEnoughData", laid_pub_kmsg_pub_kmsg_inner_kbin_ErrNotEnoughData)] }
def FnAnyDeleteTopicsRequestSaid : Prop := fnAnyDeleteTopicsRequestRow.holds Tryd.pinned (OpenSpec.ofChange fnAnyDeleteTopicsRequestSpec)

/-- ITS FALSE NEIGHBOUR: 'it returns false'. Refute it at one input. -/
def fnAnyDeleteTopicsRequestWrong : ChangeSpec := { name := "fnAnyDeleteTopicsRequest", fn := fun _ => fun
  | [d1, d2] => { results := [.lit (.bool false)], args := [d1, d2] }
  | _ => none }
def FnAnyDeleteTopicsRequestWrongFalsely : Prop := fnAnyDeleteTopicsRequestRow.holds Tryd.pinned (OpenSpec.ofChange fnAnyDeleteTopicsRequestWrong)

/-- 'laws.FnAnyWriteTxnMarkersRequest': WHATEVER THE INPUT: true; the input reads as it did. -/
def fnAnyWriteTxnMarkersRequestSpec : ChangeSpec := { name := "fnAnyWriteTxnMarkersRequest", fn := fun _ => fun
  | [d1, d2] => { results := [.lit (.bool true)], args := [d1, d2] }
  | _ => none }
def fnAnyWriteTxnMarkersRequestRow : OpenClaim := { program := "ytoohbljhpfamlaadoor", sum := "a2b35e1d492d4f9c71f1a2e81aafaaf0f71d2b709d520327fb943a25ab0991a6", func := "pub-kmsg/laws.FnAnyWriteTxnMarkersRequest", spec := "fnAnyWriteTxnMarkersRequest", inPlace := ["internal/reflectlite.ValueOf", "internal/reflectlite.Swapper", "(internal/reflectlite.Value).Len"], unfollowed := true, recurses := true, named := ["encoding/binary.BigEndian", "pub-kmsg/pub/kmsg/inner/kbin.ErrNotEnoughData"], apart := false, laid := [("pub-kmsg/pub/kmsg/inner/kbin.ErrNotEnoughData", laid_pub_kmsg_pub_kmsg_inner_kbin_ErrNotEnoughData)] }
def FnAnyWriteTxnMarkersRequestSaid : Prop := fnAnyWriteTxnMarkersRequestRow.holds Tryd.pinned (OpenSpec.ofChange fnAnyWriteTxnMarkersRequestSpec)

/-- ITS FALSE NEIGHBOUR: 'it returns false'. Refute it at one input. -/
def fnAnyWriteTxnMarkersRequestWrong : ChangeSpec := { name := "fnAnyWriteTxnMarkersRequest", fn := fun _ => fun
  | [d1, d2] => { results := [.lit (.bool false)], args := [d1, d2] }
  | _ => none }
def FnAnyWriteTxnMarkersRequestWrongFalsely : Prop := fnAnyWriteTxnMarkersRequestRow.holds Tryd.pinned (OpenSpec.ofChange fnAnyWriteTxnMarkersRequestWrong)

/-- 'laws.FnAnyAlterShareGroupOffsetsResponse': WHATEVER THE INPUT: true; the input reads as it did. -/
def fnAnyAlterShareGroupOffsetsResponseSpec : ChangeSpec := { name := "fnAnyAlterShareGroupOffsetsResponse", fn := fun _ => fun
  | [d1, d2] => { results := [.lit (.bool true)], args := [d1, d2] }
  | _ => none }
def fnAnyAlterShareGroupOffsetsResponseRow : OpenClaim := { program := "ytoohbljhpfamlaadoor", sum := "a2b35e1d492d4f9c71f1a2e81aafaaf0f71d2b709d520327fb943a25ab0991a6", func := "pub-kmsg/laws.FnAnyAlterShareGroupOffsetsResponse", spec := "fnAnyAlterShareGroupOffsetsResponse", inPlace := ["internal/reflectlite.ValueOf", "internal/reflectlite.Swapper", "(internal/reflectlite.Value).Len"], unfollowed := true, recurses := true, named := ["encoding/binary.BigEndian", "pub-kmsg/pub/kmsg/inner/kbin.ErrNotEnoughData"], apart := false, laid := [("pub-kmsg/pub/kmsg/inner/kbin.ErrNotEnoughData", laid_pub_kmsg_pub_kmsg_inner_kbin_ErrNotEnoughData)] }
def FnAnyAlterShareGroupOffsetsResponseSaid : Prop := fnAnyAlterShareGroupOffsetsResponseRow.holds Tryd.pinned (OpenSpec.ofChange fnAnyAlterShareGroupOffsetsResponseSpec)

/-- ITS FALSE NEIGHBOUR: 'it returns false'. Refute it at one input. -/
def fnAnyAlterShareGroupOffsetsResponseWrong : ChangeSpec := { name := "fnAnyAlterShareGroupOffsetsResponse", fn := fun _ => fun
  | [d1, d2] => { results := [.lit (.bool false)], args := [d1, d2] }
  | _ => none }
def FnAnyAlterShareGroupOffsetsResponseWrongFalsely : Prop := fnAnyAlterShareGroupOffsetsResponseRow.holds Tryd.pinned (OpenSpec.ofChange fnAnyAlterShareGroupOffsetsResponseWrong)

/-- 'laws.FnAnyStopReplicaRequest': WHATEVER THE INPUT: true; the input reads as it did. -/
def fnAnyStopReplicaRequestSpec : ChangeSpec := { name := "fnAnyStopReplicaRequest", fn := fun _ => fun
  | [d1, d2] => { results := [.lit (.bool true)], args := [d1, d2] }
  | _ => none }
def fnAnyStopReplicaRequestRow : OpenClaim := { program := "ytoohbljhpfamlaadoor", sum := "a2b35e1d492d4f9c71f1a2e81aafaaf0f71d2b709d520327fb943a25ab0991a6", func := "pub-kmsg/laws.FnAnyStopReplicaRequest", spec := "fnAnyStopReplicaRequest", inPlace := ["internal/reflectlite.ValueOf", "internal/reflectlite.Swapper", "(internal/reflectlite.Value).Len"], unfollowed := true, recurses := true, named := ["encoding/binary.BigEndian", "pub-kmsg/pub/kmsg/inner/kbin.ErrNotEnoughData"], apart := false, laid := [("pub-kmsg/pub/kmsg/inner/kbin.ErrNotEnoughData", laid_pub_kmsg_pub_kmsg_inner_kbin_ErrNotEnoughData)] }
def FnAnyStopReplicaRequestSaid : Prop := fnAnyStopReplicaRequestRow.holds Tryd.pinned (OpenSpec.ofChange fnAnyStopReplicaRequestSpec)

/-- ITS FALSE NEIGHBOUR: 'it returns false'. Refute it at one input. -/
def fnAnyStopReplicaRequestWrong : ChangeSpec := { name := "fnAnyStopReplicaRequest", fn := fun _ => fun
  | [d1, d2] => { results := [.lit (.bool false)], args := [d1, d2] }
  | _ => none }
def FnAnyStopReplicaRequestWrongFalsely : Prop := fnAnyStopReplicaRequestRow.holds Tryd.pinned (OpenSpec.ofChange fnAnyStopReplicaRequestWrong)

/-- 'laws.FnAnyDescribeGroupsResponse': WHATEVER THE INPUT: true; the input reads as it did. -/
def fnAnyDescribeGroupsResponseSpec : ChangeSpec := { name := "fnAnyDescribeGroupsResponse", fn := fun _ => fun
  | [d1, d2] => { results := [.lit (.bool true)], args := [d1, d2] }
  | _ => none }
def fnAnyDescribeGroupsResponseRow : OpenClaim := { program := "ytoohbljhpfamlaadoor", sum := "a2b35e1d492d4f9c71f1a2e81aafaaf0f71d2b709d520327fb943a25ab0991a6", func := "pub-kmsg/laws.FnAnyDescribeGroupsResponse", spec := "fnAnyDescribeGroupsResponse", inPlace := ["internal/reflectlite.ValueOf", "internal/reflectlite.Swapper", "(internal/reflectlite.Value).Len"], unfollowed := true, recurses := true, named := ["encoding/binary.BigEndian", "pub-kmsg/pub/kmsg/inner/kbin.ErrNotEnoughData"], apart := false, laid := [("pub-kmsg/pub/kmsg/inner/kbin.ErrNotEnoughData", laid_pub_kmsg_pub_kmsg_inner_kbin_ErrNotEnoughData)] }
def FnAnyDescribeGroupsResponseSaid : Prop := fnAnyDescribeGroupsResponseRow.holds Tryd.pinned (OpenSpec.ofChange fnAnyDescribeGroupsResponseSpec)

/-- ITS FALSE NEIGHBOUR: 'it returns false'. Refute it at one input. -/
def fnAnyDescribeGroupsResponseWrong : ChangeSpec := { name := "fnAnyDescribeGroupsResponse", fn := fun _ => fun
  | [d1, d2] => { results := [.lit (.bool false)], args := [d1, d2] }
  | _ => none }
def FnAnyDescribeGroupsResponseWrongFalsely : Prop := fnAnyDescribeGroupsResponseRow.holds Tryd.pinned (OpenSpec.ofChange fnAnyDescribeGroupsResponseWrong)

/- THE SECOND FORM. 'bulk': how many values and letters a reading holds, each counted each time it is reached (what is shared counts as often as it is met; a slice's spare places count too). A statement '..UptoSaid' is the law's where the arguments, and the package variables that the reading takes, are together of bulk at most 1048576: NARROWER than '..Said'. Prove '..Said' where nothing that the law and all that it calls make is longer than what came in: it says more and counts as full. Else prove '..UptoSaid'. A law counts once. -/
mutual
def uptoBulk {H : Type} : DataW H → Nat
  | .lit (.string bytes) => bytes.length + 1
  | .lit _ => 1
  | .nil => 1
  | .ptr d => uptoBulk d + 1
  | .slice elems spare => uptoBulkAll elems + uptoBulkAll spare + 1
  | .agg parts => uptoBulkAll parts + 1
  | .iface _ d => uptoBulk d + 1
  | .map entries => uptoBulkEntries entries + 1
  | .held _ => 1
def uptoBulkAll {H : Type} : List (DataW H) → Nat
  | [] => 0
  | d :: r => uptoBulk d + uptoBulkAll r
def uptoBulkEntries {H : Type} : List (Lit × DataW H) → Nat
  | [] => 0
  | x :: r => uptoBulkEntry x + uptoBulkEntries r
def uptoBulkEntry {H : Type} : Lit × DataW H → Nat
  | (.string bytes, d) => bytes.length + uptoBulk d + 1
  | (_, d) => uptoBulk d + 1
 end
def uptoSmall : (H : Type) → List (DataW H) → Bool := fun _ ds => decide (uptoBulkAll ds ≤ 1048576)
def OpenSpec.upto (s : _root_.Go.ChangeSpec) : _root_.Go.OpenSpec := { _root_.Go.OpenSpec.ofChange s with cond := some uptoSmall }

/-- 'laws.FnAnyOffsetForLeaderEpochRequest', WHERE WHAT IT READS IS OF BULK AT MOST 1048576: true; the input reads as it did. -/
def fnAnyOffsetForLeaderEpochRequestUptoRow : OpenClaim := { program := "ytoohbljhpfamlaadoor", sum := "a2b35e1d492d4f9c71f1a2e81aafaaf0f71d2b709d520327fb943a25ab0991a6", func := "pub-kmsg/laws.FnAnyOffsetForLeaderEpochRequest", spec := "fnAnyOffsetForLeaderEpochRequest", inPlace := ["internal/reflectlite.ValueOf", "internal/reflectlite.Swapper", "(internal/reflectlite.Value).Len"], unfollowed := true, recurses := true, named := ["encoding/binary.BigEndian", "pub-kmsg/pub/kmsg/inner/kbin.ErrNotEnoughData"], apart := false, laid := [("pub-kmsg/pub/kmsg/inner/kbin.ErrNotEnoughData", laid_pub_kmsg_pub_kmsg_inner_kbin_ErrNotEnoughData)], narrowed := true }
def FnAnyOffsetForLeaderEpochRequestUptoSaid : Prop := fnAnyOffsetForLeaderEpochRequestUptoRow.holds Tryd.pinned (OpenSpec.upto fnAnyOffsetForLeaderEpochRequestSpec)

/-- 'laws.FnAnyCreatePartitionsResponse', WHERE WHAT IT READS IS OF BULK AT MOST 1048576: true; the input reads as it did. -/
def fnAnyCreatePartitionsResponseUptoRow : OpenClaim := { program := "ytoohbljhpfamlaadoor", sum := "a2b35e1d492d4f9c71f1a2e81aafaaf0f71d2b709d520327fb943a25ab0991a6", func := "pub-kmsg/laws.FnAnyCreatePartitionsResponse", spec := "fnAnyCreatePartitionsResponse", inPlace := ["internal/reflectlite.ValueOf", "internal/reflectlite.Swapper", "(internal/reflectlite.Value).Len"], unfollowed := true, recurses := true, named := ["encoding/binary.BigEndian", "pub-kmsg/pub/kmsg/inner/kbin.ErrNotEnoughData"], apart := false, laid := [("pub-kmsg/pub/kmsg/inner/kbin.ErrNotEnoughData", laid_pub_kmsg_pub_kmsg_inner_kbin_ErrNotEnoughData)], narrowed := true }
def FnAnyCreatePartitionsResponseUptoSaid : Prop := fnAnyCreatePartitionsResponseUptoRow.holds Tryd.pinned (OpenSpec.upto fnAnyCreatePartitionsResponseSpec)

/-- 'laws.FnAnyInitializeShareGroupStateRequest', WHERE WHAT IT READS IS OF BULK AT MOST 1048576: true; the input reads as it did. -/
def fnAnyInitializeShareGroupStateRequestUptoRow : OpenClaim := { program := "ytoohbljhpfamlaadoor", sum := "a2b35e1d492d4f9c71f1a2e81aafaaf0f71d2b709d520327fb943a25ab0991a6", func := "pub-kmsg/laws.FnAnyInitializeShareGroupStateRequest", spec := "fnAnyInitializeShareGroupStateRequest", inPlace := ["internal/reflectlite.ValueOf", "internal/reflectlite.Swapper", "(internal/reflectlite.Value).Len"], unfollowed := true, recurses := true, named := ["encoding/binary.BigEndian", "pub-kmsg/pub/kmsg/inner/kbin.ErrNotEnoughData"], apart := false, laid := [("pub-kmsg/pub/kmsg/inner/kbin.ErrNotEnoughData", laid_pub_kmsg_pub_kmsg_inner_kbin_ErrNotEnoughData)], narrowed := true }
def FnAnyInitializeShareGroupStateRequestUptoSaid : Prop := fnAnyInitializeShareGroupStateRequestUptoRow.holds Tryd.pinned (OpenSpec.upto fnAnyInitializeShareGroupStateRequestSpec)

/-- 'laws.FnAnyDeleteTopicsRequest', WHERE WHAT IT READS IS OF BULK AT MOST 1048576: true; the input reads as it did. -/
def fnAnyDeleteTopicsRequestUptoRow : OpenClaim := { program := "ytoohbljhpfamlaadoor", sum := "a2b35e1d492d4f9c71f1a2e81aafaaf0f71d2b709d520327fb943a25ab0991a6", func := "pub-kmsg/laws.FnAnyDeleteTopicsRequest", spec := "fnAnyDeleteTopicsRequest", inPlace := ["internal/reflectlite.ValueOf", "internal/reflectlite.Swapper", "(internal/reflectlite.Value).Len"], unfollowed := true, recurses := true, named := ["encoding/binary.BigEndian", "pub-kmsg/pub/kmsg/inner/kbin.ErrNotEnoughData"], apart := false, laid := [("pub-kmsg/pub/kmsg/inner/kbin.ErrNotEnoughData", laid_pub_kmsg_pub_kmsg_inner_kbin_ErrNotEnoughData)], narrowed := true }
def FnAnyDeleteTopicsRequestUptoSaid : Prop := fnAnyDeleteTopicsRequestUptoRow.holds Tryd.pinned (OpenSpec.upto fnAnyDeleteTopicsRequestSpec)

/-- 'laws.FnAnyWriteTxnMarkersRequest', WHERE WHAT IT READS IS OF BULK AT MOST 1048576: true; the input reads as it did. -/
def fnAnyWriteTxnMarkersRequestUptoRow : OpenClaim := { program := "ytoohbljhpfamlaadoor", sum := "a2b35e1d492d4f9c71f1a2e81aafaaf0f71d2b709d520327fb943a25ab0991a6", func := "pub-kmsg/laws.FnAnyWriteTxnMarkersRequest", spec := "fnAnyWriteTxnMarkersRequest", inPlace := ["internal/reflectlite.ValueOf", "internal/reflectlite.Swapper", "(internal/reflectlite.Value).Len"], unfollowed := true, recurses := true, named := ["encoding/binary.BigEndian", "pub-kmsg/pub/kmsg/inner/kbin.ErrNotEnoughData"], apart := false, laid := [("pub-kmsg/pub/kmsg/inner/kbin.ErrNotEnoughData", laid_pub_kmsg_pub_kmsg_inner_kbin_ErrNotEnoughData)], narrowed := true }
def FnAnyWriteTxnMarkersRequestUptoSaid : Prop := fnAnyWriteTxnMarkersRequestUptoRow.holds Tryd.pinned (OpenSpec.upto fnAnyWriteTxnMarkersRequestSpec)

/-- 'laws.FnAnyAlterShareGroupOffsetsResponse', WHERE WHAT IT READS IS OF BULK AT MOST 1048576: true; the input reads as it did. -/
def fnAnyAlterShareGroupOffsetsResponseUptoRow : OpenClaim := { program := "ytoohbljhpfamlaadoor", sum := "a2b35e1d492d4f9c71f1a2e81aafaaf0f71d2b709d520327fb943a25ab0991a6", func := "pub-kmsg/laws.FnAnyAlterShareGroupOffsetsResponse", spec := "fnAnyAlterShareGroupOffsetsResponse", inPlace := ["internal/reflectlite.ValueOf", "internal/reflectlite.Swapper", "(internal/reflectlite.Value).Len"], unfollowed := true, recurses := true, named := ["encoding/binary.BigEndian", "pub-kmsg/pub/kmsg/inner/kbin.ErrNotEnoughData"], apart := false, laid := [("pub-kmsg/pub/kmsg/inner/kbin.ErrNotEnoughData", laid_pub_kmsg_pub_kmsg_inner_kbin_ErrNotEnoughData)], narrowed := true }
def FnAnyAlterShareGroupOffsetsResponseUptoSaid : Prop := fnAnyAlterShareGroupOffsetsResponseUptoRow.holds Tryd.pinned (OpenSpec.upto fnAnyAlterShareGroupOffsetsResponseSpec)

/-- 'laws.FnAnyStopReplicaRequest', WHERE WHAT IT READS IS OF BULK AT MOST 1048576: true; the input reads as it did. -/
def fnAnyStopReplicaRequestUptoRow : OpenClaim := { program := "ytoohbljhpfamlaadoor", sum := "a2b35e1d492d4f9c71f1a2e81aafaaf0f71d2b709d520327fb943a25ab0991a6", func := "pub-kmsg/laws.FnAnyStopReplicaRequest", spec := "fnAnyStopReplicaRequest", inPlace := ["internal/reflectlite.ValueOf", "internal/reflectlite.Swapper", "(internal/reflectlite.Value).Len"], unfollowed := true, recurses := true, named := ["encoding/binary.BigEndian", "pub-kmsg/pub/kmsg/inner/kbin.ErrNotEnoughData"], apart := false, laid := [("pub-kmsg/pub/kmsg/inner/kbin.ErrNotEnoughData", laid_pub_kmsg_pub_kmsg_inner_kbin_ErrNotEnoughData)], narrowed := true }
def FnAnyStopReplicaRequestUptoSaid : Prop := fnAnyStopReplicaRequestUptoRow.holds Tryd.pinned (OpenSpec.upto fnAnyStopReplicaRequestSpec)

/-- 'laws.FnAnyDescribeGroupsResponse', WHERE WHAT IT READS IS OF BULK AT MOST 1048576: true; the input reads as it did. -/
def fnAnyDescribeGroupsResponseUptoRow : OpenClaim := { program := "ytoohbljhpfamlaadoor", sum := "a2b35e1d492d4f9c71f1a2e81aafaaf0f71d2b709d520327fb943a25ab0991a6", func := "pub-kmsg/laws.FnAnyDescribeGroupsResponse", spec := "fnAnyDescribeGroupsResponse", inPlace := ["internal/reflectlite.ValueOf", "internal/reflectlite.Swapper", "(internal/reflectlite.Value).Len"], unfollowed := true, recurses := true, named := ["encoding/binary.BigEndian", "pub-kmsg/pub/kmsg/inner/kbin.ErrNotEnoughData"], apart := false, laid := [("pub-kmsg/pub/kmsg/inner/kbin.ErrNotEnoughData", laid_pub_kmsg_pub_kmsg_inner_kbin_ErrNotEnoughData)], narrowed := true }
def FnAnyDescribeGroupsResponseUptoSaid : Prop := fnAnyDescribeGroupsResponseUptoRow.holds Tryd.pinned (OpenSpec.upto fnAnyDescribeGroupsResponseSpec)

end Rows
end Go.Proofs.YtoohbljhpfamlaaDoor
