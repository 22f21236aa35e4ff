/-
  No cell of these rows narrows 'for every input' (looked for: loops, veiled, ifaces, maps, wideKeys, modest, calm, conditions, laid).
  DERIVED. THE GIVEN ROWS OF THIS SEAT. 2 by the template 'for every input the law returns true; each argument reads behind the call as it read before'; 0 by the template 'total and deterministic' (their statements: YtfimokbgggimmaaTotals.lean).
  GIVEN WITH THE SEED: the statements are not yours to turn. If you find one false, say at which input.
  Laid BY PROGRAM, IN A SANDBOX (cutbox-rows.mjs): the forced cells as the released guide's own fill.sh prints them over the translation fc15de1b02e23fb4… (all of the seat's roots in one cut). By AI agents, Wed Nov 11 2026. No macro, syntax, notation, axiom, sorry.
-/
import Derived.Test.YtfimokbgggimmaaChecked
import GoSem.Claim
import GoSem.ClaimJoined
import GoSem.ClaimMapViews
import Derived.JoinedTies
import Derived.KernelRfl
namespace Go.Proofs.Ytfimokbgggimmaa
/- THE CELL 'sum', in the pinned program and in every row, IS THE sha256 OF THE DUMP (.gsa) THAT YtfimokbgggimmaaProg.lean LOADS. Nothing in Lean hashes anything: it is a label: what it is worth is what the hold of that sum in a sandbox is worth. -/
noncomputable def Try.pinned : Pinned := { name := "ytfimokbgggimmaa", sum := "fc15de1b02e23fb4d1a78d1a300a5155e3198f08c6670ae37d7da5707fa39ecd", checked := Try.checked }
namespace Rows
def none {H : Type} : Left H := { results := [], args := [] }

/-- 'laws.FnACLResourceTypeWords': WHATEVER THE INPUT: true; the input reads as it did. -/
def fnACLResourceTypeWordsSpec : ChangeSpec := { name := "fnACLResourceTypeWords", fn := fun _ => fun
  | [] => { results := [.lit (.bool true)], args := [] }
  | _ => none }
def fnACLResourceTypeWordsRow : OpenClaim := { program := "ytfimokbgggimmaa", sum := "fc15de1b02e23fb4d1a78d1a300a5155e3198f08c6670ae37d7da5707fa39ecd", func := "pub-kmsg/laws.FnACLResourceTypeWords", spec := "fnACLResourceTypeWords", apart := false }
def FnACLResourceTypeWordsSaid : Prop := fnACLResourceTypeWordsRow.holds Try.pinned (OpenSpec.ofChange fnACLResourceTypeWordsSpec)

/-- ITS FALSE NEIGHBOUR: 'it returns false'. Refute it at one input. -/
def fnACLResourceTypeWordsWrong : ChangeSpec := { name := "fnACLResourceTypeWords", fn := fun _ => fun
  | [] => { results := [.lit (.bool false)], args := [] }
  | _ => none }
def FnACLResourceTypeWordsWrongFalsely : Prop := fnACLResourceTypeWordsRow.holds Try.pinned (OpenSpec.ofChange fnACLResourceTypeWordsWrong)

/-- 'laws.FnNewSASLHandshakeRequest': WHATEVER THE INPUT: true; the input reads as it did. -/
def fnNewSASLHandshakeRequestSpec : ChangeSpec := { name := "fnNewSASLHandshakeRequest", fn := fun _ => fun
  | [d] => { results := [.lit (.bool true)], args := [d] }
  | _ => none }
def fnNewSASLHandshakeRequestRow : OpenClaim := { program := "ytfimokbgggimmaa", sum := "fc15de1b02e23fb4d1a78d1a300a5155e3198f08c6670ae37d7da5707fa39ecd", func := "pub-kmsg/laws.FnNewSASLHandshakeRequest", spec := "fnNewSASLHandshakeRequest", recurses := true, apart := false }
def FnNewSASLHandshakeRequestSaid : Prop := fnNewSASLHandshakeRequestRow.holds Try.pinned (OpenSpec.ofChange fnNewSASLHandshakeRequestSpec)

/-- ITS FALSE NEIGHBOUR: 'it returns false'. Refute it at one input. -/
def fnNewSASLHandshakeRequestWrong : ChangeSpec := { name := "fnNewSASLHandshakeRequest", fn := fun _ => fun
  | [d] => { results := [.lit (.bool false)], args := [d] }
  | _ => none }
def FnNewSASLHandshakeRequestWrongFalsely : Prop := fnNewSASLHandshakeRequestRow.holds Try.pinned (OpenSpec.ofChange fnNewSASLHandshakeRequestWrong)

/- THE SECOND FORM. 'bulk': how many values and letters a reading holds, each counted each time it is reached (what is shared counts as often as it is met; a slice's spare places count too). A statement '..UptoSaid' is the law's where the arguments, and the package variables that the reading takes, are together of bulk at most 1048576: NARROWER than '..Said'. Prove '..Said' where nothing that the law and all that it calls make is longer than what came in: it says more and counts as full. Else prove '..UptoSaid'. A law counts once. -/
mutual
def uptoBulk {H : Type} : DataW H → Nat
  | .lit (.string bytes) => bytes.length + 1
  | .lit _ => 1
  | .nil => 1
  | .ptr d => uptoBulk d + 1
  | .slice elems spare => uptoBulkAll elems + uptoBulkAll spare + 1
  | .agg parts => uptoBulkAll parts + 1
  | .iface _ d => uptoBulk d + 1
  | .map entries => uptoBulkEntries entries + 1
  | .held _ => 1
def uptoBulkAll {H : Type} : List (DataW H) → Nat
  | [] => 0
  | d :: r => uptoBulk d + uptoBulkAll r
def uptoBulkEntries {H : Type} : List (Lit × DataW H) → Nat
  | [] => 0
  | x :: r => uptoBulkEntry x + uptoBulkEntries r
def uptoBulkEntry {H : Type} : Lit × DataW H → Nat
  | (.string bytes, d) => bytes.length + uptoBulk d + 1
  | (_, d) => uptoBulk d + 1
 end
def uptoSmall : (H : Type) → List (DataW H) → Bool := fun _ ds => decide (uptoBulkAll ds ≤ 1048576)
def OpenSpec.upto (s : _root_.Go.ChangeSpec) : _root_.Go.OpenSpec := { _root_.Go.OpenSpec.ofChange s with cond := some uptoSmall }

/-- 'laws.FnACLResourceTypeWords', WHERE WHAT IT READS IS OF BULK AT MOST 1048576: true; the input reads as it did. -/
def fnACLResourceTypeWordsUptoRow : OpenClaim := { program := "ytfimokbgggimmaa", sum := "fc15de1b02e23fb4d1a78d1a300a5155e3198f08c6670ae37d7da5707fa39ecd", func := "pub-kmsg/laws.FnACLResourceTypeWords", spec := "fnACLResourceTypeWords", apart := false, narrowed := true }
def FnACLResourceTypeWordsUptoSaid : Prop := fnACLResourceTypeWordsUptoRow.holds Try.pinned (OpenSpec.upto fnACLResourceTypeWordsSpec)

/-- 'laws.FnNewSASLHandshakeRequest', WHERE WHAT IT READS IS OF BULK AT MOST 1048576: true; the input reads as it did. -/
def fnNewSASLHandshakeRequestUptoRow : OpenClaim := { program := "ytfimokbgggimmaa", sum := "fc15de1b02e23fb4d1a78d1a300a5155e3198f08c6670ae37d7da5707fa39ecd", func := "pub-kmsg/laws.FnNewSASLHandshakeRequest", spec := "fnNewSASLHandshakeRequest", recurses := true, apart := false, narrowed := true }
def FnNewSASLHandshakeRequestUptoSaid : Prop := fnNewSASLHandshakeRequestUptoRow.holds Try.pinned (OpenSpec.upto fnNewSASLHandshakeRequestSpec)

end Rows
end Go.Proofs.Ytfimokbgggimmaa
