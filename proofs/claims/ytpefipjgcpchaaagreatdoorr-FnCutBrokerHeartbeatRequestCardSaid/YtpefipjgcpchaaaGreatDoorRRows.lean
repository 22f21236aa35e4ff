/-
  NARROWER THAN 'FOR EVERY INPUT', by the rows' own cells (each row's printed sentence says how): FnCutBrokerHeartbeatRequest: loops, laid · FnAgainEndQuorumEpochResponse: loops, laid.
  DERIVED. THE GIVEN ROWS OF THIS SEAT. 2 by the template 'for every input the law returns true; each argument reads behind the call as it read before'; 0 by the template 'total and deterministic' (their statements: YtpefipjgcpchaaaGreatDoorRTotals.lean).
  GIVEN WITH THE SEED: the statements are not yours to turn. If you find one false, say at which input.
  Laid BY PROGRAM, IN A SANDBOX (cutbox-rows.mjs): the forced cells as the released guide's own fill.sh prints them over the translation 65ce6aea71d29272… (all of the seat's roots in one cut). By AI agents, Wed Nov 11 2026. No macro, syntax, notation, axiom, sorry.
-/
import Derived.Test.YtpefipjgcpchaaaGreatDoorRChecked
import GoSem.Claim
import GoSem.ClaimJoined
import GoSem.ClaimMapViews
import Derived.JoinedTies
import Derived.KernelRfl
namespace Go.Proofs.YtpefipjgcpchaaaGreatDoorR
/- THE CELL 'sum', in the pinned program and in every row, IS THE sha256 OF THE DUMP (.gsa) THAT YtpefipjgcpchaaaGreatDoorRProg.lean LOADS. Nothing in Lean hashes anything: it is a label: what it is worth is what the hold of that sum in a sandbox is worth. -/
noncomputable def Tryz.pinned : Pinned := { name := "ytpefipjgcpchaaagreatdoorr", sum := "65ce6aea71d29272efbb0e5c0260fe6842fd4549d54719f4961d6b7864d9dc16", checked := Tryz.checked }
namespace Rows
def none {H : Type} : Left H := { results := [], args := [] }

/- WHAT THE LISTED PACKAGE-LEVEL VARIABLES READ AS WHEN THE CALL BEGINS. Each datum BY PROGRAM (the guide's laid-datum.mjs) off the statement by which the dump's own 'gosem.cut.vars' lays the variable. In a bare row this is a premise. The card (YtpefipjgcpchaaaGreatDoorRCards.lean) ties it to the program's text. -/
def laid_pub_kmsg_pub_kmsg_inner_kbin_ErrNotEnoughData {H : Type} : DataW H := .iface "*errors.errorString" (.ptr (.agg [.lit (.string [114, 101, 115, 112, 111, 110, 115, 101, 32, 100, 105, 100, 32, 110, 111, 116, 32, 99, 111, 110, 116, 97, 105, 110, 32, 101, 110, 111, 117, 103, 104, 32, 100, 97, 116, 97, 32, 116, 111, 32, 98, 101, 32, 118, 97, 108, 105, 100])]))

/-- 'laws.FnCutBrokerHeartbeatRequest': WHATEVER THE INPUT: true; the input reads as it did. -/
def fnCutBrokerHeartbeatRequestSpec : ChangeSpec := { name := "fnCutBrokerHeartbeatRequest", fn := fun _ => fun
  | [d1, d2, d3] => { results := [.lit (.bool true)], args := [d1, d2, d3] }
  | _ => none }
def fnCutBrokerHeartbeatRequestRow : OpenClaim := { program := "ytpefipjgcpchaaagreatdoorr", sum := "65ce6aea71d29272efbb0e5c0260fe6842fd4549d54719f4961d6b7864d9dc16", func := "pub-kmsg/laws.FnCutBrokerHeartbeatRequest", spec := "fnCutBrokerHeartbeatRequest", inPlace := ["internal/reflectlite.ValueOf", "internal/reflectlite.Swapper", "(internal/reflectlite.Value).Len"], unfollowed := true, recurses := true, named := ["encoding/binary.BigEndian", "pub-kmsg/pub/kmsg/inner/kbin.ErrNotEnoughData"], loops := true, apart := false, laid := [("pub-kmsg/pub/kmsg/inner/kbin.ErrNotEnoughData", laid_pub_kmsg_pub_kmsg_inner_kbin_ErrNotEnoughData)] }
def FnCutBrokerHeartbeatRequestSaid : Prop := fnCutBrokerHeartbeatRequestRow.holds Tryz.pinned (OpenSpec.ofChange fnCutBrokerHeartbeatRequestSpec)

/-- ITS FALSE NEIGHBOUR: 'it returns false'. Refute it at one input. -/
def fnCutBrokerHeartbeatRequestWrong : ChangeSpec := { name := "fnCutBrokerHeartbeatRequest", fn := fun _ => fun
  | [d1, d2, d3] => { results := [.lit (.bool false)], args := [d1, d2, d3] }
  | _ => none }
def FnCutBrokerHeartbeatRequestWrongFalsely : Prop := fnCutBrokerHeartbeatRequestRow.holds Tryz.pinned (OpenSpec.ofChange fnCutBrokerHeartbeatRequestWrong)

/-- 'laws.FnAgainEndQuorumEpochResponse': WHATEVER THE INPUT: true; the input reads as it did. -/
def fnAgainEndQuorumEpochResponseSpec : ChangeSpec := { name := "fnAgainEndQuorumEpochResponse", fn := fun _ => fun
  | [d1, d2] => { results := [.lit (.bool true)], args := [d1, d2] }
  | _ => none }
def fnAgainEndQuorumEpochResponseRow : OpenClaim := { program := "ytpefipjgcpchaaagreatdoorr", sum := "65ce6aea71d29272efbb0e5c0260fe6842fd4549d54719f4961d6b7864d9dc16", func := "pub-kmsg/laws.FnAgainEndQuorumEpochResponse", spec := "fnAgainEndQuorumEpochResponse", inPlace := ["internal/reflectlite.ValueOf", "internal/reflectlite.Swapper", "(internal/reflectlite.Value).Len"], unfollowed := true, recurses := true, named := ["encoding/binary.BigEndian", "pub-kmsg/pub/kmsg/inner/kbin.ErrNotEnoughData"], loops := true, apart := false, laid := [("pub-kmsg/pub/kmsg/inner/kbin.ErrNotEnoughData", laid_pub_kmsg_pub_kmsg_inner_kbin_ErrNotEnoughData)] }
def FnAgainEndQuorumEpochResponseSaid : Prop := fnAgainEndQuorumEpochResponseRow.holds Tryz.pinned (OpenSpec.ofChange fnAgainEndQuorumEpochResponseSpec)

/-- ITS FALSE NEIGHBOUR: 'it returns false'. Refute it at one input. -/
def fnAgainEndQuorumEpochResponseWrong : ChangeSpec := { name := "fnAgainEndQuorumEpochResponse", fn := fun _ => fun
  | [d1, d2] => { results := [.lit (.bool false)], args := [d1, d2] }
  | _ => none }
def FnAgainEndQuorumEpochResponseWrongFalsely : Prop := fnAgainEndQuorumEpochResponseRow.holds Tryz.pinned (OpenSpec.ofChange fnAgainEndQuorumEpochResponseWrong)

/- THE SECOND FORM. 'bulk': how many values and letters a reading holds, each counted each time it is reached (what is shared counts as often as it is met; a slice's spare places count too). A statement '..UptoSaid' is the law's where the arguments, and the package variables that the reading takes, are together of bulk at most 1048576: NARROWER than '..Said'. Prove '..Said' where nothing that the law and all that it calls make is longer than what came in: it says more and counts as full. Else prove '..UptoSaid'. A law counts once. -/
mutual
def uptoBulk {H : Type} : DataW H → Nat
  | .lit (.string bytes) => bytes.length + 1
  | .lit _ => 1
  | .nil => 1
  | .ptr d => uptoBulk d + 1
  | .slice elems spare => uptoBulkAll elems + uptoBulkAll spare + 1
  | .agg parts => uptoBulkAll parts + 1
  | .iface _ d => uptoBulk d + 1
  | .map entries => uptoBulkEntries entries + 1
  | .held _ => 1
def uptoBulkAll {H : Type} : List (DataW H) → Nat
  | [] => 0
  | d :: r => uptoBulk d + uptoBulkAll r
def uptoBulkEntries {H : Type} : List (Lit × DataW H) → Nat
  | [] => 0
  | x :: r => uptoBulkEntry x + uptoBulkEntries r
def uptoBulkEntry {H : Type} : Lit × DataW H → Nat
  | (.string bytes, d) => bytes.length + uptoBulk d + 1
  | (_, d) => uptoBulk d + 1
 end
def uptoSmall : (H : Type) → List (DataW H) → Bool := fun _ ds => decide (uptoBulkAll ds ≤ 1048576)
def OpenSpec.upto (s : _root_.Go.ChangeSpec) : _root_.Go.OpenSpec := { _root_.Go.OpenSpec.ofChange s with cond := some uptoSmall }

/-- 'laws.FnCutBrokerHeartbeatRequest', WHERE WHAT IT READS IS OF BULK AT MOST 1048576: true; the input reads as it did. -/
def fnCutBrokerHeartbeatRequestUptoRow : OpenClaim := { program := "ytpefipjgcpchaaagreatdoorr", sum := "65ce6aea71d29272efbb0e5c0260fe6842fd4549d54719f4961d6b7864d9dc16", func := "pub-kmsg/laws.FnCutBrokerHeartbeatRequest", spec := "fnCutBrokerHeartbeatRequest", inPlace := ["internal/reflectlite.ValueOf", "internal/reflectlite.Swapper", "(internal/reflectlite.Value).Len"], unfollowed := true, recurses := true, named := ["encoding/binary.BigEndian", "pub-kmsg/pub/kmsg/inner/kbin.ErrNotEnoughData"], loops := true, apart := false, laid := [("pub-kmsg/pub/kmsg/inner/kbin.ErrNotEnoughData", laid_pub_kmsg_pub_kmsg_inner_kbin_ErrNotEnoughData)], narrowed := true }
def FnCutBrokerHeartbeatRequestUptoSaid : Prop := fnCutBrokerHeartbeatRequestUptoRow.holds Tryz.pinned (OpenSpec.upto fnCutBrokerHeartbeatRequestSpec)

/-- 'laws.FnAgainEndQuorumEpochResponse', WHERE WHAT IT READS IS OF BULK AT MOST 1048576: true; the input reads as it did. -/
def fnAgainEndQuorumEpochResponseUptoRow : OpenClaim := { program := "ytpefipjgcpchaaagreatdoorr", sum := "65ce6aea71d29272efbb0e5c0260fe6842fd4549d54719f4961d6b7864d9dc16", func := "pub-kmsg/laws.FnAgainEndQuorumEpochResponse", spec := "fnAgainEndQuorumEpochResponse", inPlace := ["internal/reflectlite.ValueOf", "internal/reflectlite.Swapper", "(internal/reflectlite.Value).Len"], unfollowed := true, recurses := true, named := ["encoding/binary.BigEndian", "pub-kmsg/pub/kmsg/inner/kbin.ErrNotEnoughData"], loops := true, apart := false, laid := [("pub-kmsg/pub/kmsg/inner/kbin.ErrNotEnoughData", laid_pub_kmsg_pub_kmsg_inner_kbin_ErrNotEnoughData)], narrowed := true }
def FnAgainEndQuorumEpochResponseUptoSaid : Prop := fnAgainEndQuorumEpochResponseUptoRow.holds Tryz.pinned (OpenSpec.upto fnAgainEndQuorumEpochResponseSpec)

end Rows
end Go.Proofs.YtpefipjgcpchaaaGreatDoorR
