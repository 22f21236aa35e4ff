/-
  NARROWER THAN 'FOR EVERY INPUT', by the rows' own cells (each row's printed sentence says how): FnAgainTxnMetadataKey: loops, laid · FnAnyGroupMetadataKey: laid · FnTellBatch: laid · FnCutOffsetDeleteRequest: loops, laid.
  DERIVED. THE GIVEN ROWS OF THIS SEAT. 4 by the template 'for every input the law returns true; each argument reads behind the call as it read before'; 0 by the template 'total and deterministic' (their statements: YtfimokbgggimmaaDoorTotals.lean).
  GIVEN WITH THE SEED: the statements are not yours to turn. If you find one false, say at which input.
  Laid BY PROGRAM, IN A SANDBOX (cutbox-rows.mjs): the forced cells as the released guide's own fill.sh prints them over the translation 6156834f7c223c4f… (all of the seat's roots in one cut). By AI agents, Wed Nov 11 2026. No macro, syntax, notation, axiom, sorry.
-/
import Derived.Test.YtfimokbgggimmaaDoorChecked
import GoSem.Claim
import GoSem.ClaimJoined
import GoSem.ClaimMapViews
import Derived.JoinedTies
import Derived.KernelRfl
namespace Go.Proofs.YtfimokbgggimmaaDoor
/- THE CELL 'sum', in the pinned program and in every row, IS THE sha256 OF THE DUMP (.gsa) THAT YtfimokbgggimmaaDoorProg.lean LOADS. Nothing in Lean hashes anything: it is a label: what it is worth is what the hold of that sum in a sandbox is worth. -/
noncomputable def Tryd.pinned : Pinned := { name := "ytfimokbgggimmaadoor", sum := "6156834f7c223c4f17e58e14b285babaeb6247c1e0c1796fc07c623277b16c91", checked := Tryd.checked }
namespace Rows
def none {H : Type} : Left H := { results := [], args := [] }

/- WHAT THE LISTED PACKAGE-LEVEL VARIABLES READ AS WHEN THE CALL BEGINS. Each datum BY PROGRAM (the guide's laid-datum.mjs) off the statement by which the dump's own 'gosem.cut.vars' lays the variable. In a bare row this is a premise. The card (YtfimokbgggimmaaDoorCards.lean) ties it to the program's text. -/
def laid_pub_kmsg_pub_kmsg_inner_kbin_ErrNotEnoughData {H : Type} : DataW H := .iface "*errors.errorString" (.ptr (.agg [.lit (.string [114, 101, 115, 112, 111, 110, 115, 101, 32, 100, 105, 100, 32, 110, 111, 116, 32, 99, 111, 110, 116, 97, 105, 110, 32, 101, 110, 111, 117, 103, 104, 32, 100, 97, 116, 97, 32, 116, 111, 32, 98, 101, 32, 118, 97, 108, 105, 100])]))

/-- 'laws.FnAgainTxnMetadataKey': WHATEVER THE INPUT: true; the input reads as it did. -/
def fnAgainTxnMetadataKeySpec : ChangeSpec := { name := "fnAgainTxnMetadataKey", fn := fun _ => fun
  | [d1, d2] => { results := [.lit (.bool true)], args := [d1, d2] }
  | _ => none }
def fnAgainTxnMetadataKeyRow : OpenClaim := { program := "ytfimokbgggimmaadoor", sum := "6156834f7c223c4f17e58e14b285babaeb6247c1e0c1796fc07c623277b16c91", func := "pub-kmsg/laws.FnAgainTxnMetadataKey", spec := "fnAgainTxnMetadataKey", recurses := true, named := ["encoding/binary.BigEndian", "pub-kmsg/pub/kmsg/inner/kbin.ErrNotEnoughData"], loops := true, apart := false, laid := [("pub-kmsg/pub/kmsg/inner/kbin.ErrNotEnoughData", laid_pub_kmsg_pub_kmsg_inner_kbin_ErrNotEnoughData)] }
def FnAgainTxnMetadataKeySaid : Prop := fnAgainTxnMetadataKeyRow.holds Tryd.pinned (OpenSpec.ofChange fnAgainTxnMetadataKeySpec)

/-- ITS FALSE NEIGHBOUR: 'it returns false'. Refute it at one input. -/
def fnAgainTxnMetadataKeyWrong : ChangeSpec := { name := "fnAgainTxnMetadataKey", fn := fun _ => fun
  | [d1, d2] => { results := [.lit (.bool false)], args := [d1, d2] }
  | _ => none }
def FnAgainTxnMetadataKeyWrongFalsely : Prop := fnAgainTxnMetadataKeyRow.holds Tryd.pinned (OpenSpec.ofChange fnAgainTxnMetadataKeyWrong)

/-- 'laws.FnAnyGroupMetadataKey': WHATEVER THE INPUT: true; the input reads as it did. -/
def fnAnyGroupMetadataKeySpec : ChangeSpec := { name := "fnAnyGroupMetadataKey", fn := fun _ => fun
  | [d] => { results := [.lit (.bool true)], args := [d] }
  | _ => none }
def fnAnyGroupMetadataKeyRow : OpenClaim := { program := "ytfimokbgggimmaadoor", sum := "6156834f7c223c4f17e58e14b285babaeb6247c1e0c1796fc07c623277b16c91", func := "pub-kmsg/laws.FnAnyGroupMetadataKey", spec := "fnAnyGroupMetadataKey", recurses := true, named := ["encoding/binary.BigEndian", "pub-kmsg/pub/kmsg/inner/kbin.ErrNotEnoughData"], apart := false, laid := [("pub-kmsg/pub/kmsg/inner/kbin.ErrNotEnoughData", laid_pub_kmsg_pub_kmsg_inner_kbin_ErrNotEnoughData)] }
def FnAnyGroupMetadataKeySaid : Prop := fnAnyGroupMetadataKeyRow.holds Tryd.pinned (OpenSpec.ofChange fnAnyGroupMetadataKeySpec)

/-- ITS FALSE NEIGHBOUR: 'it returns false'. Refute it at one input. -/
def fnAnyGroupMetadataKeyWrong : ChangeSpec := { name := "fnAnyGroupMetadataKey", fn := fun _ => fun
  | [d] => { results := [.lit (.bool false)], args := [d] }
  | _ => none }
def FnAnyGroupMetadataKeyWrongFalsely : Prop := fnAnyGroupMetadataKeyRow.holds Tryd.pinned (OpenSpec.ofChange fnAnyGroupMetadataKeyWrong)

/-- 'laws.FnTellBatch': WHATEVER THE INPUT: true; the input reads as it did. -/
def fnTellBatchSpec : ChangeSpec := { name := "fnTellBatch", fn := fun _ => fun
  | [d1, d2] => { results := [.lit (.bool true)], args := [d1, d2] }
  | _ => none }
def fnTellBatchRow : OpenClaim := { program := "ytfimokbgggimmaadoor", sum := "6156834f7c223c4f17e58e14b285babaeb6247c1e0c1796fc07c623277b16c91", func := "pub-kmsg/laws.FnTellBatch", spec := "fnTellBatch", named := ["encoding/binary.BigEndian", "pub-kmsg/pub/kmsg/inner/kbin.ErrNotEnoughData"], apart := false, laid := [("pub-kmsg/pub/kmsg/inner/kbin.ErrNotEnoughData", laid_pub_kmsg_pub_kmsg_inner_kbin_ErrNotEnoughData)] }
def FnTellBatchSaid : Prop := fnTellBatchRow.holds Tryd.pinned (OpenSpec.ofChange fnTellBatchSpec)

/-- ITS FALSE NEIGHBOUR: 'it returns false'. Refute it at one input. -/
def fnTellBatchWrong : ChangeSpec := { name := "fnTellBatch", fn := fun _ => fun
  | [d1, d2] => { results := [.lit (.bool false)], args := [d1, d2] }
  | _ => none }
def FnTellBatchWrongFalsely : Prop := fnTellBatchRow.holds Tryd.pinned (OpenSpec.ofChange fnTellBatchWrong)

/-- 'laws.FnCutOffsetDeleteRequest': WHATEVER THE INPUT: true; the input reads as it did. -/
def fnCutOffsetDeleteRequestSpec : ChangeSpec := { name := "fnCutOffsetDeleteRequest", fn := fun _ => fun
  | [d1, d2, d3] => { results := [.lit (.bool true)], args := [d1, d2, d3] }
  | _ => none }
def fnCutOffsetDeleteRequestRow : OpenClaim := { program := "ytfimokbgggimmaadoor", sum := "6156834f7c223c4f17e58e14b285babaeb6247c1e0c1796fc07c623277b16c91", func := "pub-kmsg/laws.FnCutOffsetDeleteRequest", spec := "fnCutOffsetDeleteRequest", recurses := true, named := ["encoding/binary.BigEndian", "pub-kmsg/pub/kmsg/inner/kbin.ErrNotEnoughData"], loops := true, apart := false, laid := [("pub-kmsg/pub/kmsg/inner/kbin.ErrNotEnoughData", laid_pub_kmsg_pub_kmsg_inner_kbin_ErrNotEnoughData)] }
def FnCutOffsetDeleteRequestSaid : Prop := fnCutOffsetDeleteRequestRow.holds Tryd.pinned (OpenSpec.ofChange fnCutOffsetDeleteRequestSpec)

/-- ITS FALSE NEIGHBOUR: 'it returns false'. Refute it at one input. -/
def fnCutOffsetDeleteRequestWrong : ChangeSpec := { name := "fnCutOffsetDeleteRequest", fn := fun _ => fun
  | [d1, d2, d3] => { results := [.lit (.bool false)], args := [d1, d2, d3] }
  | _ => none }
def FnCutOffsetDeleteRequestWrongFalsely : Prop := fnCutOffsetDeleteRequestRow.holds Tryd.pinned (OpenSpec.ofChange fnCutOffsetDeleteRequestWrong)

/- THE SECOND FORM. 'bulk': how many values and letters a reading holds, each counted each time it is reached (what is shared counts as often as it is met; a slice's spare places count too). A statement '..UptoSaid' is the law's where the arguments, and the package variables that the reading takes, are together of bulk at most 1048576: NARROWER than '..Said'. Prove '..Said' where nothing that the law and all that it calls make is longer than what came in: it says more and counts as full. Else prove '..UptoSaid'. A law counts once. -/
mutual
def uptoBulk {H : Type} : DataW H → Nat
  | .lit (.string bytes) => bytes.length + 1
  | .lit _ => 1
  | .nil => 1
  | .ptr d => uptoBulk d + 1
  | .slice elems spare => uptoBulkAll elems + uptoBulkAll spare + 1
  | .agg parts => uptoBulkAll parts + 1
  | .iface _ d => uptoBulk d + 1
  | .map entries => uptoBulkEntries entries + 1
  | .held _ => 1
def uptoBulkAll {H : Type} : List (DataW H) → Nat
  | [] => 0
  | d :: r => uptoBulk d + uptoBulkAll r
def uptoBulkEntries {H : Type} : List (Lit × DataW H) → Nat
  | [] => 0
  | x :: r => uptoBulkEntry x + uptoBulkEntries r
def uptoBulkEntry {H : Type} : Lit × DataW H → Nat
  | (.string bytes, d) => bytes.length + uptoBulk d + 1
  | (_, d) => uptoBulk d + 1
 end
def uptoSmall : (H : Type) → List (DataW H) → Bool := fun _ ds => decide (uptoBulkAll ds ≤ 1048576)
def OpenSpec.upto (s : _root_.Go.ChangeSpec) : _root_.Go.OpenSpec := { _root_.Go.OpenSpec.ofChange s with cond := some uptoSmall }

/-- 'laws.FnAgainTxnMetadataKey', WHERE WHAT IT READS IS OF BULK AT MOST 1048576: true; the input reads as it did. -/
def fnAgainTxnMetadataKeyUptoRow : OpenClaim := { program := "ytfimokbgggimmaadoor", sum := "6156834f7c223c4f17e58e14b285babaeb6247c1e0c1796fc07c623277b16c91", func := "pub-kmsg/laws.FnAgainTxnMetadataKey", spec := "fnAgainTxnMetadataKey", recurses := true, named := ["encoding/binary.BigEndian", "pub-kmsg/pub/kmsg/inner/kbin.ErrNotEnoughData"], loops := true, apart := false, laid := [("pub-kmsg/pub/kmsg/inner/kbin.ErrNotEnoughData", laid_pub_kmsg_pub_kmsg_inner_kbin_ErrNotEnoughData)], narrowed := true }
def FnAgainTxnMetadataKeyUptoSaid : Prop := fnAgainTxnMetadataKeyUptoRow.holds Tryd.pinned (OpenSpec.upto fnAgainTxnMetadataKeySpec)

/-- 'laws.FnAnyGroupMetadataKey', WHERE WHAT IT READS IS OF BULK AT MOST 1048576: true; the input reads as it did. -/
def fnAnyGroupMetadataKeyUptoRow : OpenClaim := { program := "ytfimokbgggimmaadoor", sum := "6156834f7c223c4f17e58e14b285babaeb6247c1e0c1796fc07c623277b16c91", func := "pub-kmsg/laws.FnAnyGroupMetadataKey", spec := "fnAnyGroupMetadataKey", recurses := true, named := ["encoding/binary.BigEndian", "pub-kmsg/pub/kmsg/inner/kbin.ErrNotEnoughData"], apart := false, laid := [("pub-kmsg/pub/kmsg/inner/kbin.ErrNotEnoughData", laid_pub_kmsg_pub_kmsg_inner_kbin_ErrNotEnoughData)], narrowed := true }
def FnAnyGroupMetadataKeyUptoSaid : Prop := fnAnyGroupMetadataKeyUptoRow.holds Tryd.pinned (OpenSpec.upto fnAnyGroupMetadataKeySpec)

/-- 'laws.FnTellBatch', WHERE WHAT IT READS IS OF BULK AT MOST 1048576: true; the input reads as it did. -/
def fnTellBatchUptoRow : OpenClaim := { program := "ytfimokbgggimmaadoor", sum := "6156834f7c223c4f17e58e14b285babaeb6247c1e0c1796fc07c623277b16c91", func := "pub-kmsg/laws.FnTellBatch", spec := "fnTellBatch", named := ["encoding/binary.BigEndian", "pub-kmsg/pub/kmsg/inner/kbin.ErrNotEnoughData"], apart := false, laid := [("pub-kmsg/pub/kmsg/inner/kbin.ErrNotEnoughData", laid_pub_kmsg_pub_kmsg_inner_kbin_ErrNotEnoughData)], narrowed := true }
def FnTellBatchUptoSaid : Prop := fnTellBatchUptoRow.holds Tryd.pinned (OpenSpec.upto fnTellBatchSpec)

/-- 'laws.FnCutOffsetDeleteRequest', WHERE WHAT IT READS IS OF BULK AT MOST 1048576: true; the input reads as it did. -/
def fnCutOffsetDeleteRequestUptoRow : OpenClaim := { program := "ytfimokbgggimmaadoor", sum := "6156834f7c223c4f17e58e14b285babaeb6247c1e0c1796fc07c623277b16c91", func := "pub-kmsg/laws.FnCutOffsetDeleteRequest", spec := "fnCutOffsetDeleteRequest", recurses := true, named := ["encoding/binary.BigEndian", "pub-kmsg/pub/kmsg/inner/kbin.ErrNotEnoughData"], loops := true, apart := false, laid := [("pub-kmsg/pub/kmsg/inner/kbin.ErrNotEnoughData", laid_pub_kmsg_pub_kmsg_inner_kbin_ErrNotEnoughData)], narrowed := true }
def FnCutOffsetDeleteRequestUptoSaid : Prop := fnCutOffsetDeleteRequestUptoRow.holds Tryd.pinned (OpenSpec.upto fnCutOffsetDeleteRequestSpec)

end Rows
end Go.Proofs.YtfimokbgggimmaaDoor
