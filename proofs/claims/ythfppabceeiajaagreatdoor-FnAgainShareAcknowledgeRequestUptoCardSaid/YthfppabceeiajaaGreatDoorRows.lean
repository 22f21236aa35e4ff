/-
  NARROWER THAN 'FOR EVERY INPUT', by the rows' own cells (each row's printed sentence says how): FnCutReadShareGroupStateSummaryResponse: loops, laid · FnAgainLeaderAndISRResponse: loops, laid · FnCutAlterPartitionResponse: loops, laid · FnAgainShareAcknowledgeRequest: loops, laid.
  DERIVED. THE GIVEN ROWS OF THIS SEAT. 4 by the template 'for every input the law returns true; each argument reads behind the call as it read before'; 0 by the template 'total and deterministic' (their statements: YthfppabceeiajaaGreatDoorTotals.lean).
  GIVEN WITH THE SEED: the statements are not yours to turn. If you find one false, say at which input.
  Laid BY PROGRAM, IN A SANDBOX (cutbox-rows.mjs): the forced cells as the released guide's own fill.sh prints them over the translation f2344afb53e60ba4… (all of the seat's roots in one cut). By AI agents, Wed Nov 11 2026. No macro, syntax, notation, axiom, sorry.
-/
import Derived.Test.YthfppabceeiajaaGreatDoorChecked
import GoSem.Claim
import GoSem.ClaimJoined
import GoSem.ClaimMapViews
import Derived.JoinedTies
import Derived.KernelRfl
namespace Go.Proofs.YthfppabceeiajaaGreatDoor
/- THE CELL 'sum', in the pinned program and in every row, IS THE sha256 OF THE DUMP (.gsa) THAT YthfppabceeiajaaGreatDoorProg.lean LOADS. Nothing in Lean hashes anything: it is a label: what it is worth is what the hold of that sum in a sandbox is worth. -/
noncomputable def Tryz.pinned : Pinned := { name := "ythfppabceeiajaagreatdoor", sum := "f2344afb53e60ba4f9ac9000446ebb51e97ffaa1e1a4df825385876a3d2794e0", checked := Tryz.checked }
namespace Rows
def none {H : Type} : Left H := { results := [], args := [] }

/- WHAT THE LISTED PACKAGE-LEVEL VARIABLES READ AS WHEN THE CALL BEGINS. Each datum BY PROGRAM (the guide's laid-datum.mjs) off the statement by which the dump's own 'gosem.cut.vars' lays the variable. In a bare row this is a premise. The card (YthfppabceeiajaaGreatDoorCards.lean) ties it to the program's text. -/
def laid_pub_kmsg_pub_kmsg_inner_kbin_ErrNotEnoughData {H : Type} : DataW H := .iface "*errors.errorString" (.ptr (.agg [.lit (.string [114, 101, 115, 112, 111, 110, 115, 101, 32, 100, 105, 100, 32, 110, 111, 116, 32, 99, 111, 110, 116, 97, 105, 110, 32, 101, 110, 111, 117, 103, 104, 32, 100, 97, 116, 97, 32, 116, 111, 32, 98, 101, 32, 118, 97, 108, 105, 100])]))

/-- 'laws.FnCutReadShareGroupStateSummaryResponse': WHATEVER THE INPUT: true; the input reads as it did. -/
def fnCutReadShareGroupStateSummaryResponseSpec : ChangeSpec := { name := "fnCutReadShareGroupStateSummaryResponse", fn := fun _ => fun
  | [d1, d2, d3] => { results := [.lit (.bool true)], args := [d1, d2, d3] }
  | _ => none }
def fnCutReadShareGroupStateSummaryResponseRow : OpenClaim := { program := "ythfppabceeiajaagreatdoor", sum := "f2344afb53e60ba4f9ac9000446ebb51e97ffaa1e1a4df825385876a3d2794e0", func := "pub-kmsg/laws.FnCutReadShareGroupStateSummaryResponse", spec := "fnCutReadShareGroupStateSummaryResponse", inPlace := ["internal/reflectlite.ValueOf", "internal/reflectlite.Swapper", "(internal/reflectlite.Value).Len"], unfollowed := true, recurses := true, named := ["encoding/binary.BigEndian", "pub-kmsg/pub/kmsg/inner/kbin.ErrNotEnoughData"], loops := true, apart := false, laid := [("pub-kmsg/pub/kmsg/inner/kbin.ErrNotEnoughData", laid_pub_kmsg_pub_kmsg_inner_kbin_ErrNotEnoughData)] }
def FnCutReadShareGroupStateSummaryResponseSaid : Prop := fnCutReadShareGroupStateSummaryResponseRow.holds Tryz.pinned (OpenSpec.ofChange fnCutReadShareGroupStateSummaryResponseSpec)

/-- ITS FALSE NEIGHBOUR: 'it returns false'. Refute it at one input. -/
def fnCutReadShareGroupStateSummaryResponseWrong : ChangeSpec := { name := "fnCutReadShareGroupStateSummaryResponse", fn := fun _ => fun
  | [d1, d2, d3] => { results := [.lit (.bool false)], args := [d1, d2, d3] }
  | _ => none }
def FnCutReadShareGroupStateSummaryResponseWrongFalsely : Prop := fnCutReadShareGroupStateSummaryResponseRow.holds Tryz.pinned (OpenSpec.ofChange fnCutReadShareGroupStateSummaryResponseWrong)

/-- 'laws.FnAgainLeaderAndISRResponse': WHATEVER THE INPUT: true; the input reads as it did. -/
def fnAgainLeaderAndISRResponseSpec : ChangeSpec := { name := "fnAgainLeaderAndISRResponse", fn := fun _ => fun
  | [d1, d2] => { results := [.lit (.bool true)], args := [d1, d2] }
  | _ => none }
def fnAgainLeaderAndISRResponseRow : OpenClaim := { program := "ythfppabceeiajaagreatdoor", sum := "f2344afb53e60ba4f9ac9000446ebb51e97ffaa1e1a4df825385876a3d2794e0", func := "pub-kmsg/laws.FnAgainLeaderAndISRResponse", spec := "fnAgainLeaderAndISRResponse", inPlace := ["internal/reflectlite.ValueOf", "internal/reflectlite.Swapper", "(internal/reflectlite.Value).Len"], unfollowed := true, recurses := true, named := ["encoding/binary.BigEndian", "pub-kmsg/pub/kmsg/inner/kbin.ErrNotEnoughData"], loops := true, apart := false, laid := [("pub-kmsg/pub/kmsg/inner/kbin.ErrNotEnoughData", laid_pub_kmsg_pub_kmsg_inner_kbin_ErrNotEnoughData)] }
def FnAgainLeaderAndISRResponseSaid : Prop := fnAgainLeaderAndISRResponseRow.holds Tryz.pinned (OpenSpec.ofChange fnAgainLeaderAndISRResponseSpec)

/-- ITS FALSE NEIGHBOUR: 'it returns false'. Refute it at one input. -/
def fnAgainLeaderAndISRResponseWrong : ChangeSpec := { name := "fnAgainLeaderAndISRResponse", fn := fun _ => fun
  | [d1, d2] => { results := [.lit (.bool false)], args := [d1, d2] }
  | _ => none }
def FnAgainLeaderAndISRResponseWrongFalsely : Prop := fnAgainLeaderAndISRResponseRow.holds Tryz.pinned (OpenSpec.ofChange fnAgainLeaderAndISRResponseWrong)

/-- 'laws.FnCutAlterPartitionResponse': WHATEVER THE INPUT: true; the input reads as it did. -/
def fnCutAlterPartitionResponseSpec : ChangeSpec := { name := "fnCutAlterPartitionResponse", fn := fun _ => fun
  | [d1, d2, d3] => { results := [.lit (.bool true)], args := [d1, d2, d3] }
  | _ => none }
def fnCutAlterPartitionResponseRow : OpenClaim := { program := "ythfppabceeiajaagreatdoor", sum := "f2344afb53e60ba4f9ac9000446ebb51e97ffaa1e1a4df825385876a3d2794e0", func := "pub-kmsg/laws.FnCutAlterPartitionResponse", spec := "fnCutAlterPartitionResponse", inPlace := ["internal/reflectlite.ValueOf", "internal/reflectlite.Swapper", "(internal/reflectlite.Value).Len"], unfollowed := true, recurses := true, named := ["encoding/binary.BigEndian", "pub-kmsg/pub/kmsg/inner/kbin.ErrNotEnoughData"], loops := true, apart := false, laid := [("pub-kmsg/pub/kmsg/inner/kbin.ErrNotEnoughData", laid_pub_kmsg_pub_kmsg_inner_kbin_ErrNotEnoughData)] }
def FnCutAlterPartitionResponseSaid : Prop := fnCutAlterPartitionResponseRow.holds Tryz.pinned (OpenSpec.ofChange fnCutAlterPartitionResponseSpec)

/-- ITS FALSE NEIGHBOUR: 'it returns false'. Refute it at one input. -/
def fnCutAlterPartitionResponseWrong : ChangeSpec := { name := "fnCutAlterPartitionResponse", fn := fun _ => fun
  | [d1, d2, d3] => { results := [.lit (.bool false)], args := [d1, d2, d3] }
  | _ => none }
def FnCutAlterPartitionResponseWrongFalsely : Prop := fnCutAlterPartitionResponseRow.holds Tryz.pinned (OpenSpec.ofChange fnCutAlterPartitionResponseWrong)

/-- 'laws.FnAgainShareAcknowledgeRequest': WHATEVER THE INPUT: true; the input reads as it did. -/
def fnAgainShareAcknowledgeRequestSpec : ChangeSpec := { name := "fnAgainShareAcknowledgeRequest", fn := fun _ => fun
  | [d1, d2] => { results := [.lit (.bool true)], args := [d1, d2] }
  | _ => none }
def fnAgainShareAcknowledgeRequestRow : OpenClaim := { program := "ythfppabceeiajaagreatdoor", sum := "f2344afb53e60ba4f9ac9000446ebb51e97ffaa1e1a4df825385876a3d2794e0", func := "pub-kmsg/laws.FnAgainShareAcknowledgeRequest", spec := "fnAgainShareAcknowledgeRequest", inPlace := ["internal/reflectlite.ValueOf", "internal/reflectlite.Swapper", "(internal/reflectlite.Value).Len"], unfollowed := true, recurses := true, named := ["encoding/binary.BigEndian", "pub-kmsg/pub/kmsg/inner/kbin.ErrNotEnoughData"], loops := true, apart := false, laid := [("pub-kmsg/pub/kmsg/inner/kbin.ErrNotEnoughData", laid_pub_kmsg_pub_kmsg_inner_kbin_ErrNotEnoughData)] }
def FnAgainShareAcknowledgeRequestSaid : Prop := fnAgainShareAcknowledgeRequestRow.holds Tryz.pinned (OpenSpec.ofChange fnAgainShareAcknowledgeRequestSpec)

/-- ITS FALSE NEIGHBOUR: 'it returns false'. Refute it at one input. -/
def fnAgainShareAcknowledgeRequestWrong : ChangeSpec := { name := "fnAgainShareAcknowledgeRequest", fn := fun _ => fun
  | [d1, d2] => { results := [.lit (.bool false)], args := [d1, d2] }
  | _ => none }
def FnAgainShareAcknowledgeRequestWrongFalsely : Prop := fnAgainShareAcknowledgeRequestRow.holds Tryz.pinned (OpenSpec.ofChange fnAgainShareAcknowledgeRequestWrong)

/- THE SECOND FORM. 'bulk': how many values and letters a reading holds, each counted each time it is reached (what is shared counts as often as it is met; a slice's spare places count too). A statement '..UptoSaid' is the law's where the arguments, and the package variables that the reading takes, are together of bulk at most 1048576: NARROWER than '..Said'. Prove '..Said' where nothing that the law and all that it calls make is longer than what came in: it says more and counts as full. Else prove '..UptoSaid'. A law counts once. -/
mutual
def uptoBulk {H : Type} : DataW H → Nat
  | .lit (.string bytes) => bytes.length + 1
  | .lit _ => 1
  | .nil => 1
  | .ptr d => uptoBulk d + 1
  | .slice elems spare => uptoBulkAll elems + uptoBulkAll spare + 1
  | .agg parts => uptoBulkAll parts + 1
  | .iface _ d => uptoBulk d + 1
  | .map entries => uptoBulkEntries entries + 1
  | .held _ => 1
def uptoBulkAll {H : Type} : List (DataW H) → Nat
  | [] => 0
  | d :: r => uptoBulk d + uptoBulkAll r
def uptoBulkEntries {H : Type} : List (Lit × DataW H) → Nat
  | [] => 0
  | x :: r => uptoBulkEntry x + uptoBulkEntries r
def uptoBulkEntry {H : Type} : Lit × DataW H → Nat
  | (.string bytes, d) => bytes.length + uptoBulk d + 1
  | (_, d) => uptoBulk d + 1
 end
def uptoSmall : (H : Type) → List (DataW H) → Bool := fun _ ds => decide (uptoBulkAll ds ≤ 1048576)
def OpenSpec.upto (s : _root_.Go.ChangeSpec) : _root_.Go.OpenSpec := { _root_.Go.OpenSpec.ofChange s with cond := some uptoSmall }

/-- 'laws.FnCutReadShareGroupStateSummaryResponse', WHERE WHAT IT READS IS OF BULK AT MOST 1048576: true; the input reads as it did. -/
def fnCutReadShareGroupStateSummaryResponseUptoRow : OpenClaim := { program := "ythfppabceeiajaagreatdoor", sum := "f2344afb53e60ba4f9ac9000446ebb51e97ffaa1e1a4df825385876a3d2794e0", func := "pub-kmsg/laws.FnCutReadShareGroupStateSummaryResponse", spec := "fnCutReadShareGroupStateSummaryResponse", inPlace := ["internal/reflectlite.ValueOf", "internal/reflectlite.Swapper", "(internal/reflectlite.Value).Len"], unfollowed := true, recurses := true, named := ["encoding/binary.BigEndian", "pub-kmsg/pub/kmsg/inner/kbin.ErrNotEnoughData"], loops := true, apart := false, laid := [("pub-kmsg/pub/kmsg/inner/kbin.ErrNotEnoughData", laid_pub_kmsg_pub_kmsg_inner_kbin_ErrNotEnoughData)], narrowed := true }
def FnCutReadShareGroupStateSummaryResponseUptoSaid : Prop := fnCutReadShareGroupStateSummaryResponseUptoRow.holds Tryz.pinned (OpenSpec.upto fnCutReadShareGroupStateSummaryResponseSpec)

/-- 'laws.FnAgainLeaderAndISRResponse', WHERE WHAT IT READS IS OF BULK AT MOST 1048576: true; the input reads as it did. -/
def fnAgainLeaderAndISRResponseUptoRow : OpenClaim := { program := "ythfppabceeiajaagreatdoor", sum := "f2344afb53e60ba4f9ac9000446ebb51e97ffaa1e1a4df825385876a3d2794e0", func := "pub-kmsg/laws.FnAgainLeaderAndISRResponse", spec := "fnAgainLeaderAndISRResponse", inPlace := ["internal/reflectlite.ValueOf", "internal/reflectlite.Swapper", "(internal/reflectlite.Value).Len"], unfollowed := true, recurses := true, named := ["encoding/binary.BigEndian", "pub-kmsg/pub/kmsg/inner/kbin.ErrNotEnoughData"], loops := true, apart := false, laid := [("pub-kmsg/pub/kmsg/inner/kbin.ErrNotEnoughData", laid_pub_kmsg_pub_kmsg_inner_kbin_ErrNotEnoughData)], narrowed := true }
def FnAgainLeaderAndISRResponseUptoSaid : Prop := fnAgainLeaderAndISRResponseUptoRow.holds Tryz.pinned (OpenSpec.upto fnAgainLeaderAndISRResponseSpec)

/-- 'laws.FnCutAlterPartitionResponse', WHERE WHAT IT READS IS OF BULK AT MOST 1048576: true; the input reads as it did. -/
def fnCutAlterPartitionResponseUptoRow : OpenClaim := { program := "ythfppabceeiajaagreatdoor", sum := "f2344afb53e60ba4f9ac9000446ebb51e97ffaa1e1a4df825385876a3d2794e0", func := "pub-kmsg/laws.FnCutAlterPartitionResponse", spec := "fnCutAlterPartitionResponse", inPlace := ["internal/reflectlite.ValueOf", "internal/reflectlite.Swapper", "(internal/reflectlite.Value).Len"], unfollowed := true, recurses := true, named := ["encoding/binary.BigEndian", "pub-kmsg/pub/kmsg/inner/kbin.ErrNotEnoughData"], loops := true, apart := false, laid := [("pub-kmsg/pub/kmsg/inner/kbin.ErrNotEnoughData", laid_pub_kmsg_pub_kmsg_inner_kbin_ErrNotEnoughData)], narrowed := true }
def FnCutAlterPartitionResponseUptoSaid : Prop := fnCutAlterPartitionResponseUptoRow.holds Tryz.pinned (OpenSpec.upto fnCutAlterPartitionResponseSpec)

/-- 'laws.FnAgainShareAcknowledgeRequest', WHERE WHAT IT READS IS OF BULK AT MOST 1048576: true; the input reads as it did. -/
def fnAgainShareAcknowledgeRequestUptoRow : OpenClaim := { program := "ythfppabceeiajaagreatdoor", sum := "f2344afb53e60ba4f9ac9000446ebb51e97ffaa1e1a4df825385876a3d2794e0", func := "pub-kmsg/laws.FnAgainShareAcknowledgeRequest", spec := "fnAgainShareAcknowledgeRequest", inPlace := ["internal/reflectlite.ValueOf", "internal/reflectlite.Swapper", "(internal/reflectlite.Value).Len"], unfollowed := true, recurses := true, named := ["encoding/binary.BigEndian", "pub-kmsg/pub/kmsg/inner/kbin.ErrNotEnoughData"], loops := true, apart := false, laid := [("pub-kmsg/pub/kmsg/inner/kbin.ErrNotEnoughData", laid_pub_kmsg_pub_kmsg_inner_kbin_ErrNotEnoughData)], narrowed := true }
def FnAgainShareAcknowledgeRequestUptoSaid : Prop := fnAgainShareAcknowledgeRequestUptoRow.holds Tryz.pinned (OpenSpec.upto fnAgainShareAcknowledgeRequestSpec)

end Rows
end Go.Proofs.YthfppabceeiajaaGreatDoor
