/-
  No cell of these rows narrows 'for every input' (looked for: loops, veiled, ifaces, maps, wideKeys, modest, calm, conditions, laid).
  DERIVED. THE GIVEN ROWS OF THIS SEAT. 3 by the template 'for every input the law returns true; each argument reads behind the call as it read before'; 0 by the template 'total and deterministic' (their statements: YtffgggfendppiaaTotals.lean).
  GIVEN WITH THE SEED: the statements are not yours to turn. If you find one false, say at which input.
  Laid BY PROGRAM, IN A SANDBOX (cutbox-rows.mjs): the forced cells as the released guide's own fill.sh prints them over the translation 88aad35fd5c43a22… (all of the seat's roots in one cut). By AI agents, Wed Nov 11 2026. No macro, syntax, notation, axiom, sorry.
-/
import Derived.Test.YtffgggfendppiaaChecked
import GoSem.Claim
import GoSem.ClaimJoined
import GoSem.ClaimMapViews
import Derived.JoinedTies
import Derived.KernelRfl
namespace Go.Proofs.Ytffgggfendppiaa
/- THE CELL 'sum', in the pinned program and in every row, IS THE sha256 OF THE DUMP (.gsa) THAT YtffgggfendppiaaProg.lean LOADS. Nothing in Lean hashes anything: it is a label: what it is worth is what the hold of that sum in a sandbox is worth. -/
noncomputable def Try.pinned : Pinned := { name := "ytffgggfendppiaa", sum := "88aad35fd5c43a222e1726316fc6e3550c1c1945bf6c07b722796c448be5e9cf", checked := Try.checked }
namespace Rows
def none {H : Type} : Left H := { results := [], args := [] }

/-- 'laws.FnNewDescribeACLsResponse': WHATEVER THE INPUT: true; the input reads as it did. -/
def fnNewDescribeACLsResponseSpec : ChangeSpec := { name := "fnNewDescribeACLsResponse", fn := fun _ => fun
  | [d] => { results := [.lit (.bool true)], args := [d] }
  | _ => none }
def fnNewDescribeACLsResponseRow : OpenClaim := { program := "ytffgggfendppiaa", sum := "88aad35fd5c43a222e1726316fc6e3550c1c1945bf6c07b722796c448be5e9cf", func := "pub-kmsg/laws.FnNewDescribeACLsResponse", spec := "fnNewDescribeACLsResponse", inPlace := ["internal/reflectlite.ValueOf", "internal/reflectlite.Swapper", "(internal/reflectlite.Value).Len"], unfollowed := true, recurses := true, apart := false }
def FnNewDescribeACLsResponseSaid : Prop := fnNewDescribeACLsResponseRow.holds Try.pinned (OpenSpec.ofChange fnNewDescribeACLsResponseSpec)

/-- ITS FALSE NEIGHBOUR: 'it returns false'. Refute it at one input. -/
def fnNewDescribeACLsResponseWrong : ChangeSpec := { name := "fnNewDescribeACLsResponse", fn := fun _ => fun
  | [d] => { results := [.lit (.bool false)], args := [d] }
  | _ => none }
def FnNewDescribeACLsResponseWrongFalsely : Prop := fnNewDescribeACLsResponseRow.holds Try.pinned (OpenSpec.ofChange fnNewDescribeACLsResponseWrong)

/-- 'laws.FnNewConsumerGroupHeartbeatResponse': WHATEVER THE INPUT: true; the input reads as it did. -/
def fnNewConsumerGroupHeartbeatResponseSpec : ChangeSpec := { name := "fnNewConsumerGroupHeartbeatResponse", fn := fun _ => fun
  | [d] => { results := [.lit (.bool true)], args := [d] }
  | _ => none }
def fnNewConsumerGroupHeartbeatResponseRow : OpenClaim := { program := "ytffgggfendppiaa", sum := "88aad35fd5c43a222e1726316fc6e3550c1c1945bf6c07b722796c448be5e9cf", func := "pub-kmsg/laws.FnNewConsumerGroupHeartbeatResponse", spec := "fnNewConsumerGroupHeartbeatResponse", inPlace := ["internal/reflectlite.ValueOf", "internal/reflectlite.Swapper", "(internal/reflectlite.Value).Len"], unfollowed := true, recurses := true, apart := false }
def FnNewConsumerGroupHeartbeatResponseSaid : Prop := fnNewConsumerGroupHeartbeatResponseRow.holds Try.pinned (OpenSpec.ofChange fnNewConsumerGroupHeartbeatResponseSpec)

/-- ITS FALSE NEIGHBOUR: 'it returns false'. Refute it at one input. -/
def fnNewConsumerGroupHeartbeatResponseWrong : ChangeSpec := { name := "fnNewConsumerGroupHeartbeatResponse", fn := fun _ => fun
  | [d] => { results := [.lit (.bool false)], args := [d] }
  | _ => none }
def FnNewConsumerGroupHeartbeatResponseWrongFalsely : Prop := fnNewConsumerGroupHeartbeatResponseRow.holds Try.pinned (OpenSpec.ofChange fnNewConsumerGroupHeartbeatResponseWrong)

/-- 'laws.FnNewJoinGroupResponse': WHATEVER THE INPUT: true; the input reads as it did. -/
def fnNewJoinGroupResponseSpec : ChangeSpec := { name := "fnNewJoinGroupResponse", fn := fun _ => fun
  | [d] => { results := [.lit (.bool true)], args := [d] }
  | _ => none }
def fnNewJoinGroupResponseRow : OpenClaim := { program := "ytffgggfendppiaa", sum := "88aad35fd5c43a222e1726316fc6e3550c1c1945bf6c07b722796c448be5e9cf", func := "pub-kmsg/laws.FnNewJoinGroupResponse", spec := "fnNewJoinGroupResponse", inPlace := ["internal/reflectlite.ValueOf", "internal/reflectlite.Swapper", "(internal/reflectlite.Value).Len"], unfollowed := true, recurses := true, apart := false }
def FnNewJoinGroupResponseSaid : Prop := fnNewJoinGroupResponseRow.holds Try.pinned (OpenSpec.ofChange fnNewJoinGroupResponseSpec)

/-- ITS FALSE NEIGHBOUR: 'it returns false'. Refute it at one input. -/
def fnNewJoinGroupResponseWrong : ChangeSpec := { name := "fnNewJoinGroupResponse", fn := fun _ => fun
  | [d] => { results := [.lit (.bool false)], args := [d] }
  | _ => none }
def FnNewJoinGroupResponseWrongFalsely : Prop := fnNewJoinGroupResponseRow.holds Try.pinned (OpenSpec.ofChange fnNewJoinGroupResponseWrong)

/- THE SECOND FORM. 'bulk': how many values and letters a reading holds, each counted each time it is reached (what is shared counts as often as it is met; a slice's spare places count too). A statement '..UptoSaid' is the law's where the arguments, and the package variables that the reading takes, are together of bulk at most 1048576: NARROWER than '..Said'. Prove '..Said' where nothing that the law and all that it calls make is longer than what came in: it says more and counts as full. Else prove '..UptoSaid'. A law counts once. -/
mutual
def uptoBulk {H : Type} : DataW H → Nat
  | .lit (.string bytes) => bytes.length + 1
  | .lit _ => 1
  | .nil => 1
  | .ptr d => uptoBulk d + 1
  | .slice elems spare => uptoBulkAll elems + uptoBulkAll spare + 1
  | .agg parts => uptoBulkAll parts + 1
  | .iface _ d => uptoBulk d + 1
  | .map entries => uptoBulkEntries entries + 1
  | .held _ => 1
def uptoBulkAll {H : Type} : List (DataW H) → Nat
  | [] => 0
  | d :: r => uptoBulk d + uptoBulkAll r
def uptoBulkEntries {H : Type} : List (Lit × DataW H) → Nat
  | [] => 0
  | x :: r => uptoBulkEntry x + uptoBulkEntries r
def uptoBulkEntry {H : Type} : Lit × DataW H → Nat
  | (.string bytes, d) => bytes.length + uptoBulk d + 1
  | (_, d) => uptoBulk d + 1
 end
def uptoSmall : (H : Type) → List (DataW H) → Bool := fun _ ds => decide (uptoBulkAll ds ≤ 1048576)
def OpenSpec.upto (s : _root_.Go.ChangeSpec) : _root_.Go.OpenSpec := { _root_.Go.OpenSpec.ofChange s with cond := some uptoSmall }

/-- 'laws.FnNewDescribeACLsResponse', WHERE WHAT IT READS IS OF BULK AT MOST 1048576: true; the input reads as it did. -/
def fnNewDescribeACLsResponseUptoRow : OpenClaim := { program := "ytffgggfendppiaa", sum := "88aad35fd5c43a222e1726316fc6e3550c1c1945bf6c07b722796c448be5e9cf", func := "pub-kmsg/laws.FnNewDescribeACLsResponse", spec := "fnNewDescribeACLsResponse", inPlace := ["internal/reflectlite.ValueOf", "internal/reflectlite.Swapper", "(internal/reflectlite.Value).Len"], unfollowed := true, recurses := true, apart := false, narrowed := true }
def FnNewDescribeACLsResponseUptoSaid : Prop := fnNewDescribeACLsResponseUptoRow.holds Try.pinned (OpenSpec.upto fnNewDescribeACLsResponseSpec)

/-- 'laws.FnNewConsumerGroupHeartbeatResponse', WHERE WHAT IT READS IS OF BULK AT MOST 1048576: true; the input reads as it did. -/
def fnNewConsumerGroupHeartbeatResponseUptoRow : OpenClaim := { program := "ytffgggfendppiaa", sum := "88aad35fd5c43a222e1726316fc6e3550c1c1945bf6c07b722796c448be5e9cf", func := "pub-kmsg/laws.FnNewConsumerGroupHeartbeatResponse", spec := "fnNewConsumerGroupHeartbeatResponse", inPlace := ["internal/reflectlite.ValueOf", "internal/reflectlite.Swapper", "(internal/reflectlite.Value).Len"], unfollowed := true, recurses := true, apart := false, narrowed := true }
def FnNewConsumerGroupHeartbeatResponseUptoSaid : Prop := fnNewConsumerGroupHeartbeatResponseUptoRow.holds Try.pinned (OpenSpec.upto fnNewConsumerGroupHeartbeatResponseSpec)

/-- 'laws.FnNewJoinGroupResponse', WHERE WHAT IT READS IS OF BULK AT MOST 1048576: true; the input reads as it did. -/
def fnNewJoinGroupResponseUptoRow : OpenClaim := { program := "ytffgggfendppiaa", sum := "88aad35fd5c43a222e1726316fc6e3550c1c1945bf6c07b722796c448be5e9cf", func := "pub-kmsg/laws.FnNewJoinGroupResponse", spec := "fnNewJoinGroupResponse", inPlace := ["internal/reflectlite.ValueOf", "internal/reflectlite.Swapper", "(internal/reflectlite.Value).Len"], unfollowed := true, recurses := true, apart := false, narrowed := true }
def FnNewJoinGroupResponseUptoSaid : Prop := fnNewJoinGroupResponseUptoRow.holds Try.pinned (OpenSpec.upto fnNewJoinGroupResponseSpec)

end Rows
end Go.Proofs.Ytffgggfendppiaa
