/-
  NARROWER THAN 'FOR EVERY INPUT', by the rows' own cells (each row's printed sentence says how): FnCutConsumerMemberMetadata: loops, laid · FnAgainGetTelemetrySubscriptionsRequest: loops, laid · FnAgainPushTelemetryResponse: loops, laid · FnAnyAllocateProducerIDsRequest: laid · FnAnyRenewDelegationTokenResponse: laid · FnCutEnvelopeResponse: loops, laid · FnAnyUnregisterBrokerResponse: laid · FnAnyConsumerGroupDescribeRequest: laid · FnAnyDescribeUserSCRAMCredentialsRequest: laid.
  DERIVED. THE GIVEN ROWS OF THIS SEAT. 9 by the template 'for every input the law returns true; each argument reads behind the call as it read before'; 0 by the template 'total and deterministic' (their statements: YtidhhlncmegjaaaDoorTotals.lean).
  GIVEN WITH THE SEED: the statements are not yours to turn. If you find one false, say at which input.
  Laid BY PROGRAM, IN A SANDBOX (cutbox-rows.mjs): the forced cells as the released guide's own fill.sh prints them over the translation c4e832ba027212b7… (all of the seat's roots in one cut). By AI agents, Wed Nov 11 2026. No macro, syntax, notation, axiom, sorry.
-/
import Derived.Test.YtidhhlncmegjaaaDoorChecked
import GoSem.Claim
import GoSem.ClaimJoined
import GoSem.ClaimMapViews
import Derived.JoinedTies
import Derived.KernelRfl
namespace Go.Proofs.YtidhhlncmegjaaaDoor
/- THE CELL 'sum', in the pinned program and in every row, IS THE sha256 OF THE DUMP (.gsa) THAT YtidhhlncmegjaaaDoorProg.lean LOADS. Nothing in Lean hashes anything: it is a label: what it is worth is what the hold of that sum in a sandbox is worth. -/
noncomputable def Tryd.pinned : Pinned := { name := "ytidhhlncmegjaaadoor", sum := "c4e832ba027212b7d765bff98856f4a88f3025f3c76c57c9e9dd4572dc8e2264", checked := Tryd.checked }
namespace Rows
def none {H : Type} : Left H := { results := [], args := [] }

/- WHAT THE LISTED PACKAGE-LEVEL VARIABLES READ AS WHEN THE CALL BEGINS. Each datum BY PROGRAM (the guide's laid-datum.mjs) off the statement by which the dump's own 'gosem.cut.vars' lays the variable. In a bare row this is a premise. The card (YtidhhlncmegjaaaDoorCards.lean) ties it to the program's text. -/
def laid_pub_kmsg_pub_kmsg_inner_kbin_ErrNotEnoughData {H : Type} : DataW H := .iface "*errors.errorString" (.ptr (.agg [.lit (.string [114, 101, 115, 112, 111, 110, 115, 101, 32, 100, 105, 100, 32, 110, 111, 116, 32, 99, 111, 110, 116, 97, 105, 110, 32, 101, 110, 111, 117, 103, 104, 32, 100, 97, 116, 97, 32, 116, 111, 32, 98, 101, 32, 118, 97, 108, 105, 100])]))

/-- 'laws.FnCutConsumerMemberMetadata': WHATEVER THE INPUT: true; the input reads as it did. -/
def fnCutConsumerMemberMetadataSpec : ChangeSpec := { name := "fnCutConsumerMemberMetadata", fn := fun _ => fun
  | [d1, d2, d3] => { results := [.lit (.bool true)], args := [d1, d2, d3] }
  | _ => none }
def fnCutConsumerMemberMetadataRow : OpenClaim := { program := "ytidhhlncmegjaaadoor", sum := "c4e832ba027212b7d765bff98856f4a88f3025f3c76c57c9e9dd4572dc8e2264", func := "pub-kmsg/laws.FnCutConsumerMemberMetadata", spec := "fnCutConsumerMemberMetadata", recurses := true, named := ["encoding/binary.BigEndian", "pub-kmsg/pub/kmsg/inner/kbin.ErrNotEnoughData"], loops := true, apart := false, laid := [("pub-kmsg/pub/kmsg/inner/kbin.ErrNotEnoughData", laid_pub_kmsg_pub_kmsg_inner_kbin_ErrNotEnoughData)] }
def FnCutConsumerMemberMetadataSaid : Prop := fnCutConsumerMemberMetadataRow.holds Tryd.pinned (OpenSpec.ofChange fnCutConsumerMemberMetadataSpec)

/-- ITS FALSE NEIGHBOUR: 'it returns false'. Refute it at one input. -/
def fnCutConsumerMemberMetadataWrong : ChangeSpec := { name := "fnCutConsumerMemberMetadata", fn := fun _ => fun
  | [d1, d2, d3] => { results := [.lit (.bool false)], args := [d1, d2, d3] }
  | _ => none }
def FnCutConsumerMemberMetadataWrongFalsely : Prop := fnCutConsumerMemberMetadataRow.holds Tryd.pinned (OpenSpec.ofChange fnCutConsumerMemberMetadataWrong)

/-- 'laws.FnAgainGetTelemetrySubscriptionsRequest': WHATEVER THE INPUT: true; the input reads as it did. -/
def fnAgainGetTelemetrySubscriptionsRequestSpec : ChangeSpec := { name := "fnAgainGetTelemetrySubscriptionsRequest", fn := fun _ => fun
  | [d1, d2] => { results := [.lit (.bool true)], args := [d1, d2] }
  | _ => none }
def fnAgainGetTelemetrySubscriptionsRequestRow : OpenClaim := { program := "ytidhhlncmegjaaadoor", sum := "c4e832ba027212b7d765bff98856f4a88f3025f3c76c57c9e9dd4572dc8e2264", func := "pub-kmsg/laws.FnAgainGetTelemetrySubscriptionsRequest", spec := "fnAgainGetTelemetrySubscriptionsRequest", inPlace := ["internal/reflectlite.ValueOf", "internal/reflectlite.Swapper", "(internal/reflectlite.Value).Len"], unfollowed := true, recurses := true, named := ["pub-kmsg/pub/kmsg/inner/kbin.ErrNotEnoughData"], loops := true, apart := false, laid := [("pub-kmsg/pub/kmsg/inner/kbin.ErrNotEnoughData", laid_pub_kmsg_pub_kmsg_inner_kbin_ErrNotEnoughData)] }
def FnAgainGetTelemetrySubscriptionsRequestSaid : Prop := fnAgainGetTelemetrySubscriptionsRequestRow.holds Tryd.pinned (OpenSpec.ofChange fnAgainGetTelemetrySubscriptionsRequestSpec)

/-- ITS FALSE NEIGHBOUR: 'it returns false'. Refute it at one input. -/
def fnAgainGetTelemetrySubscriptionsRequestWrong : ChangeSpec := { name := "fnAgainGetTelemetrySubscriptionsRequest", fn := fun _ => fun
  | [d1, d2] => { results := [.lit (.bool false)], args := [d1, d2] }
  | _ => none }
def FnAgainGetTelemetrySubscriptionsRequestWrongFalsely : Prop := fnAgainGetTelemetrySubscriptionsRequestRow.holds Tryd.pinned (OpenSpec.ofChange fnAgainGetTelemetrySubscriptionsRequestWrong)

/-- 'laws.FnAgainPushTelemetryResponse': WHATEVER THE INPUT: true; the input reads as it did. -/
def fnAgainPushTelemetryResponseSpec : ChangeSpec := { name := "fnAgainPushTelemetryResponse", fn := fun _ => fun
  | [d1, d2] => { results := [.lit (.bool true)], args := [d1, d2] }
  | _ => none }
def fnAgainPushTelemetryResponseRow : OpenClaim := { program := "ytidhhlncmegjaaadoor", sum := "c4e832ba027212b7d765bff98856f4a88f3025f3c76c57c9e9dd4572dc8e2264", func := "pub-kmsg/laws.FnAgainPushTelemetryResponse", spec := "fnAgainPushTelemetryResponse", inPlace := ["internal/reflectlite.ValueOf", "internal/reflectlite.Swapper", "(internal/reflectlite.Value).Len"], unfollowed := true, recurses := true, named := ["encoding/binary.BigEndian", "pub-kmsg/pub/kmsg/inner/kbin.ErrNotEnoughData"], loops := true, apart := false, laid := [("pub-kmsg/pub/kmsg/inner/kbin.ErrNotEnoughData", laid_pub_kmsg_pub_kmsg_inner_kbin_ErrNotEnoughData)] }
def FnAgainPushTelemetryResponseSaid : Prop := fnAgainPushTelemetryResponseRow.holds Tryd.pinned (OpenSpec.ofChange fnAgainPushTelemetryResponseSpec)

/-- ITS FALSE NEIGHBOUR: 'it returns false'. Refute it at one input. -/
def fnAgainPushTelemetryResponseWrong : ChangeSpec := { name := "fnAgainPushTelemetryResponse", fn := fun _ => fun
  | [d1, d2] => { results := [.lit (.bool false)], args := [d1, d2] }
  | _ => none }
def FnAgainPushTelemetryResponseWrongFalsely : Prop := fnAgainPushTelemetryResponseRow.holds Tryd.pinned (OpenSpec.ofChange fnAgainPushTelemetryResponseWrong)

/-- 'laws.FnAnyAllocateProducerIDsRequest': WHATEVER THE INPUT: true; the input reads as it did. -/
def fnAnyAllocateProducerIDsRequestSpec : ChangeSpec := { name := "fnAnyAllocateProducerIDsRequest", fn := fun _ => fun
  | [d1, d2] => { results := [.lit (.bool true)], args := [d1, d2] }
  | _ => none }
def fnAnyAllocateProducerIDsRequestRow : OpenClaim := { program := "ytidhhlncmegjaaadoor", sum := "c4e832ba027212b7d765bff98856f4a88f3025f3c76c57c9e9dd4572dc8e2264", func := "pub-kmsg/laws.FnAnyAllocateProducerIDsRequest", spec := "fnAnyAllocateProducerIDsRequest", inPlace := ["internal/reflectlite.ValueOf", "internal/reflectlite.Swapper", "(internal/reflectlite.Value).Len"], unfollowed := true, recurses := true, named := ["encoding/binary.BigEndian", "pub-kmsg/pub/kmsg/inner/kbin.ErrNotEnoughData"], apart := false, laid := [("pub-kmsg/pub/kmsg/inner/kbin.ErrNotEnoughData", laid_pub_kmsg_pub_kmsg_inner_kbin_ErrNotEnoughData)] }
def FnAnyAllocateProducerIDsRequestSaid : Prop := fnAnyAllocateProducerIDsRequestRow.holds Tryd.pinned (OpenSpec.ofChange fnAnyAllocateProducerIDsRequestSpec)

/-- ITS FALSE NEIGHBOUR: 'it returns false'. Refute it at one input. -/
def fnAnyAllocateProducerIDsRequestWrong : ChangeSpec := { name := "fnAnyAllocateProducerIDsRequest", fn := fun _ => fun
  | [d1, d2] => { results := [.lit (.bool false)], args := [d1, d2] }
  | _ => none }
def FnAnyAllocateProducerIDsRequestWrongFalsely : Prop := fnAnyAllocateProducerIDsRequestRow.holds Tryd.pinned (OpenSpec.ofChange fnAnyAllocateProducerIDsRequestWrong)

/-- 'laws.FnAnyRenewDelegationTokenResponse': WHATEVER THE INPUT: true; the input reads as it did. -/
def fnAnyRenewDelegationTokenResponseSpec : ChangeSpec := { name := "fnAnyRenewDelegationTokenResponse", fn := fun _ => fun
  | [d1, d2] => { results := [.lit (.bool true)], args := [d1, d2] }
  | _ => none }
def fnAnyRenewDelegationTokenResponseRow : OpenClaim := { program := "ytidhhlncmegjaaadoor", sum := "c4e832ba027212b7d765bff98856f4a88f3025f3c76c57c9e9dd4572dc8e2264", func := "pub-kmsg/laws.FnAnyRenewDelegationTokenResponse", spec := "fnAnyRenewDelegationTokenResponse", inPlace := ["internal/reflectlite.ValueOf", "internal/reflectlite.Swapper", "(internal/reflectlite.Value).Len"], unfollowed := true, recurses := true, named := ["encoding/binary.BigEndian", "pub-kmsg/pub/kmsg/inner/kbin.ErrNotEnoughData"], apart := false, laid := [("pub-kmsg/pub/kmsg/inner/kbin.ErrNotEnoughData", laid_pub_kmsg_pub_kmsg_inner_kbin_ErrNotEnoughData)] }
def FnAnyRenewDelegationTokenResponseSaid : Prop := fnAnyRenewDelegationTokenResponseRow.holds Tryd.pinned (OpenSpec.ofChange fnAnyRenewDelegationTokenResponseSpec)

/-- ITS FALSE NEIGHBOUR: 'it returns false'. Refute it at one input. -/
def fnAnyRenewDelegationTokenResponseWrong : ChangeSpec := { name := "fnAnyRenewDelegationTokenResponse", fn := fun _ => fun
  | [d1, d2] => { results := [.lit (.bool false)], args := [d1, d2] }
  | _ => none }
def FnAnyRenewDelegationTokenResponseWrongFalsely : Prop := fnAnyRenewDelegationTokenResponseRow.holds Tryd.pinned (OpenSpec.ofChange fnAnyRenewDelegationTokenResponseWrong)

/-- 'laws.FnCutEnvelopeResponse': WHATEVER THE INPUT: true; the input reads as it did. -/
def fnCutEnvelopeResponseSpec : ChangeSpec := { name := "fnCutEnvelopeResponse", fn := fun _ => fun
  | [d1, d2, d3] => { results := [.lit (.bool true)], args := [d1, d2, d3] }
  | _ => none }
def fnCutEnvelopeResponseRow : OpenClaim := { program := "ytidhhlncmegjaaadoor", sum := "c4e832ba027212b7d765bff98856f4a88f3025f3c76c57c9e9dd4572dc8e2264", func := "pub-kmsg/laws.FnCutEnvelopeResponse", spec := "fnCutEnvelopeResponse", inPlace := ["internal/reflectlite.ValueOf", "internal/reflectlite.Swapper", "(internal/reflectlite.Value).Len"], unfollowed := true, recurses := true, named := ["encoding/binary.BigEndian", "pub-kmsg/pub/kmsg/inner/kbin.ErrNotEnoughData"], loops := true, apart := false, laid := [("pub-kmsg/pub/kmsg/inner/kbin.ErrNotEnoughData", laid_pub_kmsg_pub_kmsg_inner_kbin_ErrNotEnoughData)] }
def FnCutEnvelopeResponseSaid : Prop := fnCutEnvelopeResponseRow.holds Tryd.pinned (OpenSpec.ofChange fnCutEnvelopeResponseSpec)

/-- ITS FALSE NEIGHBOUR: 'it returns false'. Refute it at one input. -/
def fnCutEnvelopeResponseWrong : ChangeSpec := { name := "fnCutEnvelopeResponse", fn := fun _ => fun
  | [d1, d2, d3] => { results := [.lit (.bool false)], args := [d1, d2, d3] }
  | _ => none }
def FnCutEnvelopeResponseWrongFalsely : Prop := fnCutEnvelopeResponseRow.holds Tryd.pinned (OpenSpec.ofChange fnCutEnvelopeResponseWrong)

/-- 'laws.FnAnyUnregisterBrokerResponse': WHATEVER THE INPUT: true; the input reads as it did. -/
def fnAnyUnregisterBrokerResponseSpec : ChangeSpec := { name := "fnAnyUnregisterBrokerResponse", fn := fun _ => fun
  | [d1, d2] => { results := [.lit (.bool true)], args := [d1, d2] }
  | _ => none }
def fnAnyUnregisterBrokerResponseRow : OpenClaim := { program := "ytidhhlncmegjaaadoor", sum := "c4e832ba027212b7d765bff98856f4a88f3025f3c76c57c9e9dd4572dc8e2264", func := "pub-kmsg/laws.FnAnyUnregisterBrokerResponse", spec := "fnAnyUnregisterBrokerResponse", inPlace := ["internal/reflectlite.ValueOf", "internal/reflectlite.Swapper", "(internal/reflectlite.Value).Len"], unfollowed := true, recurses := true, named := ["encoding/binary.BigEndian", "pub-kmsg/pub/kmsg/inner/kbin.ErrNotEnoughData"], apart := false, laid := [("pub-kmsg/pub/kmsg/inner/kbin.ErrNotEnoughData", laid_pub_kmsg_pub_kmsg_inner_kbin_ErrNotEnoughData)] }
def FnAnyUnregisterBrokerResponseSaid : Prop := fnAnyUnregisterBrokerResponseRow.holds Tryd.pinned (OpenSpec.ofChange fnAnyUnregisterBrokerResponseSpec)

/-- ITS FALSE NEIGHBOUR: 'it returns false'. Refute it at one input. -/
def fnAnyUnregisterBrokerResponseWrong : ChangeSpec := { name := "fnAnyUnregisterBrokerResponse", fn := fun _ => fun
  | [d1, d2] => { results := [.lit (.bool false)], args := [d1, d2] }
  | _ => none }
def FnAnyUnregisterBrokerResponseWrongFalsely : Prop := fnAnyUnregisterBrokerResponseRow.holds Tryd.pinned (OpenSpec.ofChange fnAnyUnregisterBrokerResponseWrong)

/-- 'laws.FnAnyConsumerGroupDescribeRequest': WHATEVER THE INPUT: true; the input reads as it did. -/
def fnAnyConsumerGroupDescribeRequestSpec : ChangeSpec := { name := "fnAnyConsumerGroupDescribeRequest", fn := fun _ => fun
  | [d1, d2] => { results := [.lit (.bool true)], args := [d1, d2] }
  | _ => none }
def fnAnyConsumerGroupDescribeRequestRow : OpenClaim := { program := "ytidhhlncmegjaaadoor", sum := "c4e832ba027212b7d765bff98856f4a88f3025f3c76c57c9e9dd4572dc8e2264", func := "pub-kmsg/laws.FnAnyConsumerGroupDescribeRequest", spec := "fnAnyConsumerGroupDescribeRequest", inPlace := ["internal/reflectlite.ValueOf", "internal/reflectlite.Swapper", "(internal/reflectlite.Value).Len"], unfollowed := true, recurses := true, named := ["encoding/binary.BigEndian", "pub-kmsg/pub/kmsg/inner/kbin.ErrNotEnoughData"], apart := false, laid := [("pub-kmsg/pub/kmsg/inner/kbin.ErrNotEnoughData", laid_pub_kmsg_pub_kmsg_inner_kbin_ErrNotEnoughData)] }
def FnAnyConsumerGroupDescribeRequestSaid : Prop := fnAnyConsumerGroupDescribeRequestRow.holds Tryd.pinned (OpenSpec.ofChange fnAnyConsumerGroupDescribeRequestSpec)

/-- ITS FALSE NEIGHBOUR: 'it returns false'. Refute it at one input. -/
def fnAnyConsumerGroupDescribeRequestWrong : ChangeSpec := { name := "fnAnyConsumerGroupDescribeRequest", fn := fun _ => fun
  | [d1, d2] => { results := [.lit (.bool false)], args := [d1, d2] }
  | _ => none }
def FnAnyConsumerGroupDescribeRequestWrongFalsely : Prop := fnAnyConsumerGroupDescribeRequestRow.holds Tryd.pinned (OpenSpec.ofChange fnAnyConsumerGroupDescribeRequestWrong)

/-- 'laws.FnAnyDescribeUserSCRAMCredentialsRequest': WHATEVER THE INPUT: true; the input reads as it did. -/
def fnAnyDescribeUserSCRAMCredentialsRequestSpec : ChangeSpec := { name := "fnAnyDescribeUserSCRAMCredentialsRequest", fn := fun _ => fun
  | [d1, d2] => { results := [.lit (.bool true)], args := [d1, d2] }
  | _ => none }
def fnAnyDescribeUserSCRAMCredentialsRequestRow : OpenClaim := { program := "ytidhhlncmegjaaadoor", sum := "c4e832ba027212b7d765bff98856f4a88f3025f3c76c57c9e9dd4572dc8e2264", func := "pub-kmsg/laws.FnAnyDescribeUserSCRAMCredentialsRequest", spec := "fnAnyDescribeUserSCRAMCredentialsRequest", inPlace := ["internal/reflectlite.ValueOf", "internal/reflectlite.Swapper", "(internal/reflectlite.Value).Len"], unfollowed := true, recurses := true, named := ["encoding/binary.BigEndian", "pub-kmsg/pub/kmsg/inner/kbin.ErrNotEnoughData"], apart := false, laid := [("pub-kmsg/pub/kmsg/inner/kbin.ErrNotEnoughData", laid_pub_kmsg_pub_kmsg_inner_kbin_ErrNotEnoughData)] }
def FnAnyDescribeUserSCRAMCredentialsRequestSaid : Prop := fnAnyDescribeUserSCRAMCredentialsRequestRow.holds Tryd.pinned (OpenSpec.ofChange fnAnyDescribeUserSCRAMCredentialsRequestSpec)

/-- ITS FALSE NEIGHBOUR: 'it returns false'. Refute it at one input. -/
def fnAnyDescribeUserSCRAMCredentialsRequestWrong : ChangeSpec := { name := "fnAnyDescribeUserSCRAMCredentialsRequest", fn := fun _ => fun
  | [d1, d2] => { results := [.lit (.bool false)], args := [d1, d2] }
  | _ => none }
def FnAnyDescribeUserSCRAMCredentialsRequestWrongFalsely : Prop := fnAnyDescribeUserSCRAMCredentialsRequestRow.holds Tryd.pinned (OpenSpec.ofChange fnAnyDescribeUserSCRAMCredentialsRequestWrong)

/- THE SECOND FORM. 'bulk': how many values and letters a reading holds, each counted each time it is reached (what is shared counts as often as it is met; a slice's spare places count too). A statement '..UptoSaid' is the law's where the arguments, and the package variables that the reading takes, are together of bulk at most 1048576: NARROWER than '..Said'. Prove '..Said' where nothing that the law and all that it calls make is longer than what came in: it says more and counts as full. Else prove '..UptoSaid'. A law counts once. -/
mutual
def uptoBulk {H : Type} : DataW H → Nat
  | .lit (.string bytes) => bytes.length + 1
  | .lit _ => 1
  | .nil => 1
  | .ptr d => uptoBulk d + 1
  | .slice elems spare => uptoBulkAll elems + uptoBulkAll spare + 1
  | .agg parts => uptoBulkAll parts + 1
  | .iface _ d => uptoBulk d + 1
  | .map entries => uptoBulkEntries entries + 1
  | .held _ => 1
def uptoBulkAll {H : Type} : List (DataW H) → Nat
  | [] => 0
  | d :: r => uptoBulk d + uptoBulkAll r
def uptoBulkEntries {H : Type} : List (Lit × DataW H) → Nat
  | [] => 0
  | x :: r => uptoBulkEntry x + uptoBulkEntries r
def uptoBulkEntry {H : Type} : Lit × DataW H → Nat
  | (.string bytes, d) => bytes.length + uptoBulk d + 1
  | (_, d) => uptoBulk d + 1
 end
def uptoSmall : (H : Type) → List (DataW H) → Bool := fun _ ds => decide (uptoBulkAll ds ≤ 1048576)
def OpenSpec.upto (s : _root_.Go.ChangeSpec) : _root_.Go.OpenSpec := { _root_.Go.OpenSpec.ofChange s with cond := some uptoSmall }

/-- 'laws.FnCutConsumerMemberMetadata', WHERE WHAT IT READS IS OF BULK AT MOST 1048576: true; the input reads as it did. -/
def fnCutConsumerMemberMetadataUptoRow : OpenClaim := { program := "ytidhhlncmegjaaadoor", sum := "c4e832ba027212b7d765bff98856f4a88f3025f3c76c57c9e9dd4572dc8e2264", func := "pub-kmsg/laws.FnCutConsumerMemberMetadata", spec := "fnCutConsumerMemberMetadata", recurses := true, named := ["encoding/binary.BigEndian", "pub-kmsg/pub/kmsg/inner/kbin.ErrNotEnoughData"], loops := true, apart := false, laid := [("pub-kmsg/pub/kmsg/inner/kbin.ErrNotEnoughData", laid_pub_kmsg_pub_kmsg_inner_kbin_ErrNotEnoughData)], narrowed := true }
def FnCutConsumerMemberMetadataUptoSaid : Prop := fnCutConsumerMemberMetadataUptoRow.holds Tryd.pinned (OpenSpec.upto fnCutConsumerMemberMetadataSpec)

/-- 'laws.FnAgainGetTelemetrySubscriptionsRequest', WHERE WHAT IT READS IS OF BULK AT MOST 1048576: true; the input reads as it did. -/
def fnAgainGetTelemetrySubscriptionsRequestUptoRow : OpenClaim := { program := "ytidhhlncmegjaaadoor", sum := "c4e832ba027212b7d765bff98856f4a88f3025f3c76c57c9e9dd4572dc8e2264", func := "pub-kmsg/laws.FnAgainGetTelemetrySubscriptionsRequest", spec := "fnAgainGetTelemetrySubscriptionsRequest", inPlace := ["internal/reflectlite.ValueOf", "internal/reflectlite.Swapper", "(internal/reflectlite.Value).Len"], unfollowed := true, recurses := true, named := ["pub-kmsg/pub/kmsg/inner/kbin.ErrNotEnoughData"], loops := true, apart := false, laid := [("pub-kmsg/pub/kmsg/inner/kbin.ErrNotEnoughData", laid_pub_kmsg_pub_kmsg_inner_kbin_ErrNotEnoughData)], narrowed := true }
def FnAgainGetTelemetrySubscriptionsRequestUptoSaid : Prop := fnAgainGetTelemetrySubscriptionsRequestUptoRow.holds Tryd.pinned (OpenSpec.upto fnAgainGetTelemetrySubscriptionsRequestSpec)

/-- 'laws.FnAgainPushTelemetryResponse', WHERE WHAT IT READS IS OF BULK AT MOST 1048576: true; the input reads as it did. -/
def fnAgainPushTelemetryResponseUptoRow : OpenClaim := { program := "ytidhhlncmegjaaadoor", sum := "c4e832ba027212b7d765bff98856f4a88f3025f3c76c57c9e9dd4572dc8e2264", func := "pub-kmsg/laws.FnAgainPushTelemetryResponse", spec := "fnAgainPushTelemetryResponse", inPlace := ["internal/reflectlite.ValueOf", "internal/reflectlite.Swapper", "(internal/reflectlite.Value).Len"], unfollowed := true, recurses := true, named := ["encoding/binary.BigEndian", "pub-kmsg/pub/kmsg/inner/kbin.ErrNotEnoughData"], loops := true, apart := false, laid := [("pub-kmsg/pub/kmsg/inner/kbin.ErrNotEnoughData", laid_pub_kmsg_pub_kmsg_inner_kbin_ErrNotEnoughData)], narrowed := true }
def FnAgainPushTelemetryResponseUptoSaid : Prop := fnAgainPushTelemetryResponseUptoRow.holds Tryd.pinned (OpenSpec.upto fnAgainPushTelemetryResponseSpec)

/-- 'laws.FnAnyAllocateProducerIDsRequest', WHERE WHAT IT READS IS OF BULK AT MOST 1048576: true; the input reads as it did. -/
def fnAnyAllocateProducerIDsRequestUptoRow : OpenClaim := { program := "ytidhhlncmegjaaadoor", sum := "c4e832ba027212b7d765bff98856f4a88f3025f3c76c57c9e9dd4572dc8e2264", func := "pub-kmsg/laws.FnAnyAllocateProducerIDsRequest", spec := "fnAnyAllocateProducerIDsRequest", inPlace := ["internal/reflectlite.ValueOf", "internal/reflectlite.Swapper", "(internal/reflectlite.Value).Len"], unfollowed := true, recurses := true, named := ["encoding/binary.BigEndian", "pub-kmsg/pub/kmsg/inner/kbin.ErrNotEnoughData"], apart := false, laid := [("pub-kmsg/pub/kmsg/inner/kbin.ErrNotEnoughData", laid_pub_kmsg_pub_kmsg_inner_kbin_ErrNotEnoughData)], narrowed := true }
def FnAnyAllocateProducerIDsRequestUptoSaid : Prop := fnAnyAllocateProducerIDsRequestUptoRow.holds Tryd.pinned (OpenSpec.upto fnAnyAllocateProducerIDsRequestSpec)

/-- 'laws.FnAnyRenewDelegationTokenResponse', WHERE WHAT IT READS IS OF BULK AT MOST 1048576: true; the input reads as it did. -/
def fnAnyRenewDelegationTokenResponseUptoRow : OpenClaim := { program := "ytidhhlncmegjaaadoor", sum := "c4e832ba027212b7d765bff98856f4a88f3025f3c76c57c9e9dd4572dc8e2264", func := "pub-kmsg/laws.FnAnyRenewDelegationTokenResponse", spec := "fnAnyRenewDelegationTokenResponse", inPlace := ["internal/reflectlite.ValueOf", "internal/reflectlite.Swapper", "(internal/reflectlite.Value).Len"], unfollowed := true, recurses := true, named := ["encoding/binary.BigEndian", "pub-kmsg/pub/kmsg/inner/kbin.ErrNotEnoughData"], apart := false, laid := [("pub-kmsg/pub/kmsg/inner/kbin.ErrNotEnoughData", laid_pub_kmsg_pub_kmsg_inner_kbin_ErrNotEnoughData)], narrowed := true }
def FnAnyRenewDelegationTokenResponseUptoSaid : Prop := fnAnyRenewDelegationTokenResponseUptoRow.holds Tryd.pinned (OpenSpec.upto fnAnyRenewDelegationTokenResponseSpec)

/-- 'laws.FnCutEnvelopeResponse', WHERE WHAT IT READS IS OF BULK AT MOST 1048576: true; the input reads as it did. -/
def fnCutEnvelopeResponseUptoRow : OpenClaim := { program := "ytidhhlncmegjaaadoor", sum := "c4e832ba027212b7d765bff98856f4a88f3025f3c76c57c9e9dd4572dc8e2264", func := "pub-kmsg/laws.FnCutEnvelopeResponse", spec := "fnCutEnvelopeResponse", inPlace := ["internal/reflectlite.ValueOf", "internal/reflectlite.Swapper", "(internal/reflectlite.Value).Len"], unfollowed := true, recurses := true, named := ["encoding/binary.BigEndian", "pub-kmsg/pub/kmsg/inner/kbin.ErrNotEnoughData"], loops := true, apart := false, laid := [("pub-kmsg/pub/kmsg/inner/kbin.ErrNotEnoughData", laid_pub_kmsg_pub_kmsg_inner_kbin_ErrNotEnoughData)], narrowed := true }
def FnCutEnvelopeResponseUptoSaid : Prop := fnCutEnvelopeResponseUptoRow.holds Tryd.pinned (OpenSpec.upto fnCutEnvelopeResponseSpec)

/-- 'laws.FnAnyUnregisterBrokerResponse', WHERE WHAT IT READS IS OF BULK AT MOST 1048576: true; the input reads as it did. -/
def fnAnyUnregisterBrokerResponseUptoRow : OpenClaim := { program := "ytidhhlncmegjaaadoor", sum := "c4e832ba027212b7d765bff98856f4a88f3025f3c76c57c9e9dd4572dc8e2264", func := "pub-kmsg/laws.FnAnyUnregisterBrokerResponse", spec := "fnAnyUnregisterBrokerResponse", inPlace := ["internal/reflectlite.ValueOf", "internal/reflectlite.Swapper", "(internal/reflectlite.Value).Len"], unfollowed := true, recurses := true, named := ["encoding/binary.BigEndian", "pub-kmsg/pub/kmsg/inner/kbin.ErrNotEnoughData"], apart := false, laid := [("pub-kmsg/pub/kmsg/inner/kbin.ErrNotEnoughData", laid_pub_kmsg_pub_kmsg_inner_kbin_ErrNotEnoughData)], narrowed := true }
def FnAnyUnregisterBrokerResponseUptoSaid : Prop := fnAnyUnregisterBrokerResponseUptoRow.holds Tryd.pinned (OpenSpec.upto fnAnyUnregisterBrokerResponseSpec)

/-- 'laws.FnAnyConsumerGroupDescribeRequest', WHERE WHAT IT READS IS OF BULK AT MOST 1048576: true; the input reads as it did. -/
def fnAnyConsumerGroupDescribeRequestUptoRow : OpenClaim := { program := "ytidhhlncmegjaaadoor", sum := "c4e832ba027212b7d765bff98856f4a88f3025f3c76c57c9e9dd4572dc8e2264", func := "pub-kmsg/laws.FnAnyConsumerGroupDescribeRequest", spec := "fnAnyConsumerGroupDescribeRequest", inPlace := ["internal/reflectlite.ValueOf", "internal/reflectlite.Swapper", "(internal/reflectlite.Value).Len"], unfollowed := true, recurses := true, named := ["encoding/binary.BigEndian", "pub-kmsg/pub/kmsg/inner/kbin.ErrNotEnoughData"], apart := false, laid := [("pub-kmsg/pub/kmsg/inner/kbin.ErrNotEnoughData", laid_pub_kmsg_pub_kmsg_inner_kbin_ErrNotEnoughData)], narrowed := true }
def FnAnyConsumerGroupDescribeRequestUptoSaid : Prop := fnAnyConsumerGroupDescribeRequestUptoRow.holds Tryd.pinned (OpenSpec.upto fnAnyConsumerGroupDescribeRequestSpec)

/-- 'laws.FnAnyDescribeUserSCRAMCredentialsRequest', WHERE WHAT IT READS IS OF BULK AT MOST 1048576: true; the input reads as it did. -/
def fnAnyDescribeUserSCRAMCredentialsRequestUptoRow : OpenClaim := { program := "ytidhhlncmegjaaadoor", sum := "c4e832ba027212b7d765bff98856f4a88f3025f3c76c57c9e9dd4572dc8e2264", func := "pub-kmsg/laws.FnAnyDescribeUserSCRAMCredentialsRequest", spec := "fnAnyDescribeUserSCRAMCredentialsRequest", inPlace := ["internal/reflectlite.ValueOf", "internal/reflectlite.Swapper", "(internal/reflectlite.Value).Len"], unfollowed := true, recurses := true, named := ["encoding/binary.BigEndian", "pub-kmsg/pub/kmsg/inner/kbin.ErrNotEnoughData"], apart := false, laid := [("pub-kmsg/pub/kmsg/inner/kbin.ErrNotEnoughData", laid_pub_kmsg_pub_kmsg_inner_kbin_ErrNotEnoughData)], narrowed := true }
def FnAnyDescribeUserSCRAMCredentialsRequestUptoSaid : Prop := fnAnyDescribeUserSCRAMCredentialsRequestUptoRow.holds Tryd.pinned (OpenSpec.upto fnAnyDescribeUserSCRAMCredentialsRequestSpec)

end Rows
end Go.Proofs.YtidhhlncmegjaaaDoor
