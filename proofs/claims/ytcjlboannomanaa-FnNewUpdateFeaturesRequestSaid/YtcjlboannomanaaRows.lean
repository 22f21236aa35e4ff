/-
  No cell of these rows narrows 'for every input' (looked for: loops, veiled, ifaces, maps, wideKeys, modest, calm, conditions, laid).
  DERIVED. THE GIVEN ROWS OF THIS SEAT. 9 by the template 'for every input the law returns true; each argument reads behind the call as it read before'; 0 by the template 'total and deterministic' (their statements: YtcjlboannomanaaTotals.lean).
  GIVEN WITH THE SEED: the statements are not yours to turn. If you find one false, say at which input.
  Laid BY PROGRAM, IN A SANDBOX (cutbox-rows.mjs): the forced cells as the released guide's own fill.sh prints them over the translation 968be70d2adbd7b2… (all of the seat's roots in one cut). By AI agents, Wed Nov 11 2026. No macro, syntax, notation, axiom, sorry.
-/
import Derived.Test.YtcjlboannomanaaChecked
import GoSem.Claim
import GoSem.ClaimJoined
import GoSem.ClaimMapViews
import Derived.JoinedTies
import Derived.KernelRfl
namespace Go.Proofs.Ytcjlboannomanaa
/- THE CELL 'sum', in the pinned program and in every row, IS THE sha256 OF THE DUMP (.gsa) THAT YtcjlboannomanaaProg.lean LOADS. Nothing in Lean hashes anything: it is a label: what it is worth is what the hold of that sum in a sandbox is worth. -/
noncomputable def Try.pinned : Pinned := { name := "ytcjlboannomanaa", sum := "968be70d2adbd7b2b4103de176bee9fc7ed28c9664a4498e461c5e64423df40e", checked := Try.checked }
namespace Rows
def none {H : Type} : Left H := { results := [], args := [] }

/-- 'laws.FnReadTags': WHATEVER THE INPUT: true; the input reads as it did. -/
def fnReadTagsSpec : ChangeSpec := { name := "fnReadTags", fn := fun _ => fun
  | [d1, d2] => { results := [.lit (.bool true)], args := [d1, d2] }
  | _ => none }
def fnReadTagsRow : OpenClaim := { program := "ytcjlboannomanaa", sum := "968be70d2adbd7b2b4103de176bee9fc7ed28c9664a4498e461c5e64423df40e", func := "pub-kmsg/laws.FnReadTags", spec := "fnReadTags", inPlace := ["internal/reflectlite.ValueOf", "internal/reflectlite.Swapper", "(internal/reflectlite.Value).Len"], unfollowed := true, recurses := true, apart := false }
def FnReadTagsSaid : Prop := fnReadTagsRow.holds Try.pinned (OpenSpec.ofChange fnReadTagsSpec)

/-- ITS FALSE NEIGHBOUR: 'it returns false'. Refute it at one input. -/
def fnReadTagsWrong : ChangeSpec := { name := "fnReadTags", fn := fun _ => fun
  | [d1, d2] => { results := [.lit (.bool false)], args := [d1, d2] }
  | _ => none }
def FnReadTagsWrongFalsely : Prop := fnReadTagsRow.holds Try.pinned (OpenSpec.ofChange fnReadTagsWrong)

/-- 'laws.FnNewFindCoordinatorRequest': WHATEVER THE INPUT: true; the input reads as it did. -/
def fnNewFindCoordinatorRequestSpec : ChangeSpec := { name := "fnNewFindCoordinatorRequest", fn := fun _ => fun
  | [d] => { results := [.lit (.bool true)], args := [d] }
  | _ => none }
def fnNewFindCoordinatorRequestRow : OpenClaim := { program := "ytcjlboannomanaa", sum := "968be70d2adbd7b2b4103de176bee9fc7ed28c9664a4498e461c5e64423df40e", func := "pub-kmsg/laws.FnNewFindCoordinatorRequest", spec := "fnNewFindCoordinatorRequest", inPlace := ["internal/reflectlite.ValueOf", "internal/reflectlite.Swapper", "(internal/reflectlite.Value).Len"], unfollowed := true, recurses := true, apart := false }
def FnNewFindCoordinatorRequestSaid : Prop := fnNewFindCoordinatorRequestRow.holds Try.pinned (OpenSpec.ofChange fnNewFindCoordinatorRequestSpec)

/-- ITS FALSE NEIGHBOUR: 'it returns false'. Refute it at one input. -/
def fnNewFindCoordinatorRequestWrong : ChangeSpec := { name := "fnNewFindCoordinatorRequest", fn := fun _ => fun
  | [d] => { results := [.lit (.bool false)], args := [d] }
  | _ => none }
def FnNewFindCoordinatorRequestWrongFalsely : Prop := fnNewFindCoordinatorRequestRow.holds Try.pinned (OpenSpec.ofChange fnNewFindCoordinatorRequestWrong)

/-- 'laws.FnNewApiVersionsRequest': WHATEVER THE INPUT: true; the input reads as it did. -/
def fnNewApiVersionsRequestSpec : ChangeSpec := { name := "fnNewApiVersionsRequest", fn := fun _ => fun
  | [d] => { results := [.lit (.bool true)], args := [d] }
  | _ => none }
def fnNewApiVersionsRequestRow : OpenClaim := { program := "ytcjlboannomanaa", sum := "968be70d2adbd7b2b4103de176bee9fc7ed28c9664a4498e461c5e64423df40e", func := "pub-kmsg/laws.FnNewApiVersionsRequest", spec := "fnNewApiVersionsRequest", inPlace := ["internal/reflectlite.ValueOf", "internal/reflectlite.Swapper", "(internal/reflectlite.Value).Len"], unfollowed := true, recurses := true, apart := false }
def FnNewApiVersionsRequestSaid : Prop := fnNewApiVersionsRequestRow.holds Try.pinned (OpenSpec.ofChange fnNewApiVersionsRequestSpec)

/-- ITS FALSE NEIGHBOUR: 'it returns false'. Refute it at one input. -/
def fnNewApiVersionsRequestWrong : ChangeSpec := { name := "fnNewApiVersionsRequest", fn := fun _ => fun
  | [d] => { results := [.lit (.bool false)], args := [d] }
  | _ => none }
def FnNewApiVersionsRequestWrongFalsely : Prop := fnNewApiVersionsRequestRow.holds Try.pinned (OpenSpec.ofChange fnNewApiVersionsRequestWrong)

/-- 'laws.FnNewDescribeProducersRequest': WHATEVER THE INPUT: true; the input reads as it did. -/
def fnNewDescribeProducersRequestSpec : ChangeSpec := { name := "fnNewDescribeProducersRequest", fn := fun _ => fun
  | [d] => { results := [.lit (.bool true)], args := [d] }
  | _ => none }
def fnNewDescribeProducersRequestRow : OpenClaim := { program := "ytcjlboannomanaa", sum := "968be70d2adbd7b2b4103de176bee9fc7ed28c9664a4498e461c5e64423df40e", func := "pub-kmsg/laws.FnNewDescribeProducersRequest", spec := "fnNewDescribeProducersRequest", inPlace := ["internal/reflectlite.ValueOf", "internal/reflectlite.Swapper", "(internal/reflectlite.Value).Len"], unfollowed := true, recurses := true, apart := false }
def FnNewDescribeProducersRequestSaid : Prop := fnNewDescribeProducersRequestRow.holds Try.pinned (OpenSpec.ofChange fnNewDescribeProducersRequestSpec)

/-- ITS FALSE NEIGHBOUR: 'it returns false'. Refute it at one input. -/
def fnNewDescribeProducersRequestWrong : ChangeSpec := { name := "fnNewDescribeProducersRequest", fn := fun _ => fun
  | [d] => { results := [.lit (.bool false)], args := [d] }
  | _ => none }
def FnNewDescribeProducersRequestWrongFalsely : Prop := fnNewDescribeProducersRequestRow.holds Try.pinned (OpenSpec.ofChange fnNewDescribeProducersRequestWrong)

/-- 'laws.FnNewUpdateFeaturesRequest': WHATEVER THE INPUT: true; the input reads as it did. -/
def fnNewUpdateFeaturesRequestSpec : ChangeSpec := { name := "fnNewUpdateFeaturesRequest", fn := fun _ => fun
  | [d] => { results := [.lit (.bool true)], args := [d] }
  | _ => none }
def fnNewUpdateFeaturesRequestRow : OpenClaim := { program := "ytcjlboannomanaa", sum := "968be70d2adbd7b2b4103de176bee9fc7ed28c9664a4498e461c5e64423df40e", func := "pub-kmsg/laws.FnNewUpdateFeaturesRequest", spec := "fnNewUpdateFeaturesRequest", inPlace := ["internal/reflectlite.ValueOf", "internal/reflectlite.Swapper", "(internal/reflectlite.Value).Len"], unfollowed := true, recurses := true, apart := false }
def FnNewUpdateFeaturesRequestSaid : Prop := fnNewUpdateFeaturesRequestRow.holds Try.pinned (OpenSpec.ofChange fnNewUpdateFeaturesRequestSpec)

/-- ITS FALSE NEIGHBOUR: 'it returns false'. Refute it at one input. -/
def fnNewUpdateFeaturesRequestWrong : ChangeSpec := { name := "fnNewUpdateFeaturesRequest", fn := fun _ => fun
  | [d] => { results := [.lit (.bool false)], args := [d] }
  | _ => none }
def FnNewUpdateFeaturesRequestWrongFalsely : Prop := fnNewUpdateFeaturesRequestRow.holds Try.pinned (OpenSpec.ofChange fnNewUpdateFeaturesRequestWrong)

/-- 'laws.FnNewListTransactionsRequest': WHATEVER THE INPUT: true; the input reads as it did. -/
def fnNewListTransactionsRequestSpec : ChangeSpec := { name := "fnNewListTransactionsRequest", fn := fun _ => fun
  | [d] => { results := [.lit (.bool true)], args := [d] }
  | _ => none }
def fnNewListTransactionsRequestRow : OpenClaim := { program := "ytcjlboannomanaa", sum := "968be70d2adbd7b2b4103de176bee9fc7ed28c9664a4498e461c5e64423df40e", func := "pub-kmsg/laws.FnNewListTransactionsRequest", spec := "fnNewListTransactionsRequest", inPlace := ["internal/reflectlite.ValueOf", "internal/reflectlite.Swapper", "(internal/reflectlite.Value).Len"], unfollowed := true, recurses := true, apart := false }
def FnNewListTransactionsRequestSaid : Prop := fnNewListTransactionsRequestRow.holds Try.pinned (OpenSpec.ofChange fnNewListTransactionsRequestSpec)

/-- ITS FALSE NEIGHBOUR: 'it returns false'. Refute it at one input. -/
def fnNewListTransactionsRequestWrong : ChangeSpec := { name := "fnNewListTransactionsRequest", fn := fun _ => fun
  | [d] => { results := [.lit (.bool false)], args := [d] }
  | _ => none }
def FnNewListTransactionsRequestWrongFalsely : Prop := fnNewListTransactionsRequestRow.holds Try.pinned (OpenSpec.ofChange fnNewListTransactionsRequestWrong)

/-- 'laws.FnNewAlterClientQuotasResponse': WHATEVER THE INPUT: true; the input reads as it did. -/
def fnNewAlterClientQuotasResponseSpec : ChangeSpec := { name := "fnNewAlterClientQuotasResponse", fn := fun _ => fun
  | [d] => { results := [.lit (.bool true)], args := [d] }
  | _ => none }
def fnNewAlterClientQuotasResponseRow : OpenClaim := { program := "ytcjlboannomanaa", sum := "968be70d2adbd7b2b4103de176bee9fc7ed28c9664a4498e461c5e64423df40e", func := "pub-kmsg/laws.FnNewAlterClientQuotasResponse", spec := "fnNewAlterClientQuotasResponse", inPlace := ["internal/reflectlite.ValueOf", "internal/reflectlite.Swapper", "(internal/reflectlite.Value).Len"], unfollowed := true, recurses := true, apart := false }
def FnNewAlterClientQuotasResponseSaid : Prop := fnNewAlterClientQuotasResponseRow.holds Try.pinned (OpenSpec.ofChange fnNewAlterClientQuotasResponseSpec)

/-- ITS FALSE NEIGHBOUR: 'it returns false'. Refute it at one input. -/
def fnNewAlterClientQuotasResponseWrong : ChangeSpec := { name := "fnNewAlterClientQuotasResponse", fn := fun _ => fun
  | [d] => { results := [.lit (.bool false)], args := [d] }
  | _ => none }
def FnNewAlterClientQuotasResponseWrongFalsely : Prop := fnNewAlterClientQuotasResponseRow.holds Try.pinned (OpenSpec.ofChange fnNewAlterClientQuotasResponseWrong)

/-- 'laws.FnNewElectLeadersResponse': WHATEVER THE INPUT: true; the input reads as it did. -/
def fnNewElectLeadersResponseSpec : ChangeSpec := { name := "fnNewElectLeadersResponse", fn := fun _ => fun
  | [d] => { results := [.lit (.bool true)], args := [d] }
  | _ => none }
def fnNewElectLeadersResponseRow : OpenClaim := { program := "ytcjlboannomanaa", sum := "968be70d2adbd7b2b4103de176bee9fc7ed28c9664a4498e461c5e64423df40e", func := "pub-kmsg/laws.FnNewElectLeadersResponse", spec := "fnNewElectLeadersResponse", inPlace := ["internal/reflectlite.ValueOf", "internal/reflectlite.Swapper", "(internal/reflectlite.Value).Len"], unfollowed := true, recurses := true, apart := false }
def FnNewElectLeadersResponseSaid : Prop := fnNewElectLeadersResponseRow.holds Try.pinned (OpenSpec.ofChange fnNewElectLeadersResponseSpec)

/-- ITS FALSE NEIGHBOUR: 'it returns false'. Refute it at one input. -/
def fnNewElectLeadersResponseWrong : ChangeSpec := { name := "fnNewElectLeadersResponse", fn := fun _ => fun
  | [d] => { results := [.lit (.bool false)], args := [d] }
  | _ => none }
def FnNewElectLeadersResponseWrongFalsely : Prop := fnNewElectLeadersResponseRow.holds Try.pinned (OpenSpec.ofChange fnNewElectLeadersResponseWrong)

/-- 'laws.FnNewDeleteACLsRequest': WHATEVER THE INPUT: true; the input reads as it did. -/
def fnNewDeleteACLsRequestSpec : ChangeSpec := { name := "fnNewDeleteACLsRequest", fn := fun _ => fun
  | [d] => { results := [.lit (.bool true)], args := [d] }
  | _ => none }
def fnNewDeleteACLsRequestRow : OpenClaim := { program := "ytcjlboannomanaa", sum := "968be70d2adbd7b2b4103de176bee9fc7ed28c9664a4498e461c5e64423df40e", func := "pub-kmsg/laws.FnNewDeleteACLsRequest", spec := "fnNewDeleteACLsRequest", inPlace := ["internal/reflectlite.ValueOf", "internal/reflectlite.Swapper", "(internal/reflectlite.Value).Len"], unfollowed := true, recurses := true, apart := false }
def FnNewDeleteACLsRequestSaid : Prop := fnNewDeleteACLsRequestRow.holds Try.pinned (OpenSpec.ofChange fnNewDeleteACLsRequestSpec)

/-- ITS FALSE NEIGHBOUR: 'it returns false'. Refute it at one input. -/
def fnNewDeleteACLsRequestWrong : ChangeSpec := { name := "fnNewDeleteACLsRequest", fn := fun _ => fun
  | [d] => { results := [.lit (.bool false)], args := [d] }
  | _ => none }
def FnNewDeleteACLsRequestWrongFalsely : Prop := fnNewDeleteACLsRequestRow.holds Try.pinned (OpenSpec.ofChange fnNewDeleteACLsRequestWrong)

/- THE SECOND FORM. 'bulk': how many values and letters a reading holds, each counted each time it is reached (what is shared counts as often as it is met; a slice's spare places count too). A statement '..UptoSaid' is the law's where the arguments, and the package variables that the reading takes, are together of bulk at most 1048576: NARROWER than '..Said'. Prove '..Said' where nothing that the law and all that it calls make is longer than what came in: it says more and counts as full. Else prove '..UptoSaid'. A law counts once. -/
mutual
def uptoBulk {H : Type} : DataW H → Nat
  | .lit (.string bytes) => bytes.length + 1
  | .lit _ => 1
  | .nil => 1
  | .ptr d => uptoBulk d + 1
  | .slice elems spare => uptoBulkAll elems + uptoBulkAll spare + 1
  | .agg parts => uptoBulkAll parts + 1
  | .iface _ d => uptoBulk d + 1
  | .map entries => uptoBulkEntries entries + 1
  | .held _ => 1
def uptoBulkAll {H : Type} : List (DataW H) → Nat
  | [] => 0
  | d :: r => uptoBulk d + uptoBulkAll r
def uptoBulkEntries {H : Type} : List (Lit × DataW H) → Nat
  | [] => 0
  | x :: r => uptoBulkEntry x + uptoBulkEntries r
def uptoBulkEntry {H : Type} : Lit × DataW H → Nat
  | (.string bytes, d) => bytes.length + uptoBulk d + 1
  | (_, d) => uptoBulk d + 1
 end
def uptoSmall : (H : Type) → List (DataW H) → Bool := fun _ ds => decide (uptoBulkAll ds ≤ 1048576)
def OpenSpec.upto (s : _root_.Go.ChangeSpec) : _root_.Go.OpenSpec := { _root_.Go.OpenSpec.ofChange s with cond := some uptoSmall }

/-- 'laws.FnReadTags', WHERE WHAT IT READS IS OF BULK AT MOST 1048576: true; the input reads as it did. -/
def fnReadTagsUptoRow : OpenClaim := { program := "ytcjlboannomanaa", sum := "968be70d2adbd7b2b4103de176bee9fc7ed28c9664a4498e461c5e64423df40e", func := "pub-kmsg/laws.FnReadTags", spec := "fnReadTags", inPlace := ["internal/reflectlite.ValueOf", "internal/reflectlite.Swapper", "(internal/reflectlite.Value).Len"], unfollowed := true, recurses := true, apart := false, narrowed := true }
def FnReadTagsUptoSaid : Prop := fnReadTagsUptoRow.holds Try.pinned (OpenSpec.upto fnReadTagsSpec)

/-- 'laws.FnNewFindCoordinatorRequest', WHERE WHAT IT READS IS OF BULK AT MOST 1048576: true; the input reads as it did. -/
def fnNewFindCoordinatorRequestUptoRow : OpenClaim := { program := "ytcjlboannomanaa", sum := "968be70d2adbd7b2b4103de176bee9fc7ed28c9664a4498e461c5e64423df40e", func := "pub-kmsg/laws.FnNewFindCoordinatorRequest", spec := "fnNewFindCoordinatorRequest", inPlace := ["internal/reflectlite.ValueOf", "internal/reflectlite.Swapper", "(internal/reflectlite.Value).Len"], unfollowed := true, recurses := true, apart := false, narrowed := true }
def FnNewFindCoordinatorRequestUptoSaid : Prop := fnNewFindCoordinatorRequestUptoRow.holds Try.pinned (OpenSpec.upto fnNewFindCoordinatorRequestSpec)

/-- 'laws.FnNewApiVersionsRequest', WHERE WHAT IT READS IS OF BULK AT MOST 1048576: true; the input reads as it did. -/
def fnNewApiVersionsRequestUptoRow : OpenClaim := { program := "ytcjlboannomanaa", sum := "968be70d2adbd7b2b4103de176bee9fc7ed28c9664a4498e461c5e64423df40e", func := "pub-kmsg/laws.FnNewApiVersionsRequest", spec := "fnNewApiVersionsRequest", inPlace := ["internal/reflectlite.ValueOf", "internal/reflectlite.Swapper", "(internal/reflectlite.Value).Len"], unfollowed := true, recurses := true, apart := false, narrowed := true }
def FnNewApiVersionsRequestUptoSaid : Prop := fnNewApiVersionsRequestUptoRow.holds Try.pinned (OpenSpec.upto fnNewApiVersionsRequestSpec)

/-- 'laws.FnNewDescribeProducersRequest', WHERE WHAT IT READS IS OF BULK AT MOST 1048576: true; the input reads as it did. -/
def fnNewDescribeProducersRequestUptoRow : OpenClaim := { program := "ytcjlboannomanaa", sum := "968be70d2adbd7b2b4103de176bee9fc7ed28c9664a4498e461c5e64423df40e", func := "pub-kmsg/laws.FnNewDescribeProducersRequest", spec := "fnNewDescribeProducersRequest", inPlace := ["internal/reflectlite.ValueOf", "internal/reflectlite.Swapper", "(internal/reflectlite.Value).Len"], unfollowed := true, recurses := true, apart := false, narrowed := true }
def FnNewDescribeProducersRequestUptoSaid : Prop := fnNewDescribeProducersRequestUptoRow.holds Try.pinned (OpenSpec.upto fnNewDescribeProducersRequestSpec)

/-- 'laws.FnNewUpdateFeaturesRequest', WHERE WHAT IT READS IS OF BULK AT MOST 1048576: true; the input reads as it did. -/
def fnNewUpdateFeaturesRequestUptoRow : OpenClaim := { program := "ytcjlboannomanaa", sum := "968be70d2adbd7b2b4103de176bee9fc7ed28c9664a4498e461c5e64423df40e", func := "pub-kmsg/laws.FnNewUpdateFeaturesRequest", spec := "fnNewUpdateFeaturesRequest", inPlace := ["internal/reflectlite.ValueOf", "internal/reflectlite.Swapper", "(internal/reflectlite.Value).Len"], unfollowed := true, recurses := true, apart := false, narrowed := true }
def FnNewUpdateFeaturesRequestUptoSaid : Prop := fnNewUpdateFeaturesRequestUptoRow.holds Try.pinned (OpenSpec.upto fnNewUpdateFeaturesRequestSpec)

/-- 'laws.FnNewListTransactionsRequest', WHERE WHAT IT READS IS OF BULK AT MOST 1048576: true; the input reads as it did. -/
def fnNewListTransactionsRequestUptoRow : OpenClaim := { program := "ytcjlboannomanaa", sum := "968be70d2adbd7b2b4103de176bee9fc7ed28c9664a4498e461c5e64423df40e", func := "pub-kmsg/laws.FnNewListTransactionsRequest", spec := "fnNewListTransactionsRequest", inPlace := ["internal/reflectlite.ValueOf", "internal/reflectlite.Swapper", "(internal/reflectlite.Value).Len"], unfollowed := true, recurses := true, apart := false, narrowed := true }
def FnNewListTransactionsRequestUptoSaid : Prop := fnNewListTransactionsRequestUptoRow.holds Try.pinned (OpenSpec.upto fnNewListTransactionsRequestSpec)

/-- 'laws.FnNewAlterClientQuotasResponse', WHERE WHAT IT READS IS OF BULK AT MOST 1048576: true; the input reads as it did. -/
def fnNewAlterClientQuotasResponseUptoRow : OpenClaim := { program := "ytcjlboannomanaa", sum := "968be70d2adbd7b2b4103de176bee9fc7ed28c9664a4498e461c5e64423df40e", func := "pub-kmsg/laws.FnNewAlterClientQuotasResponse", spec := "fnNewAlterClientQuotasResponse", inPlace := ["internal/reflectlite.ValueOf", "internal/reflectlite.Swapper", "(internal/reflectlite.Value).Len"], unfollowed := true, recurses := true, apart := false, narrowed := true }
def FnNewAlterClientQuotasResponseUptoSaid : Prop := fnNewAlterClientQuotasResponseUptoRow.holds Try.pinned (OpenSpec.upto fnNewAlterClientQuotasResponseSpec)

/-- 'laws.FnNewElectLeadersResponse', WHERE WHAT IT READS IS OF BULK AT MOST 1048576: true; the input reads as it did. -/
def fnNewElectLeadersResponseUptoRow : OpenClaim := { program := "ytcjlboannomanaa", sum := "968be70d2adbd7b2b4103de176bee9fc7ed28c9664a4498e461c5e64423df40e", func := "pub-kmsg/laws.FnNewElectLeadersResponse", spec := "fnNewElectLeadersResponse", inPlace := ["internal/reflectlite.ValueOf", "internal/reflectlite.Swapper", "(internal/reflectlite.Value).Len"], unfollowed := true, recurses := true, apart := false, narrowed := true }
def FnNewElectLeadersResponseUptoSaid : Prop := fnNewElectLeadersResponseUptoRow.holds Try.pinned (OpenSpec.upto fnNewElectLeadersResponseSpec)

/-- 'laws.FnNewDeleteACLsRequest', WHERE WHAT IT READS IS OF BULK AT MOST 1048576: true; the input reads as it did. -/
def fnNewDeleteACLsRequestUptoRow : OpenClaim := { program := "ytcjlboannomanaa", sum := "968be70d2adbd7b2b4103de176bee9fc7ed28c9664a4498e461c5e64423df40e", func := "pub-kmsg/laws.FnNewDeleteACLsRequest", spec := "fnNewDeleteACLsRequest", inPlace := ["internal/reflectlite.ValueOf", "internal/reflectlite.Swapper", "(internal/reflectlite.Value).Len"], unfollowed := true, recurses := true, apart := false, narrowed := true }
def FnNewDeleteACLsRequestUptoSaid : Prop := fnNewDeleteACLsRequestUptoRow.holds Try.pinned (OpenSpec.upto fnNewDeleteACLsRequestSpec)

end Rows
end Go.Proofs.Ytcjlboannomanaa
