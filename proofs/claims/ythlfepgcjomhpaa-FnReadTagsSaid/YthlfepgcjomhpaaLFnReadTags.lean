/- Tags, written behind how many they are, are read as they are: the law FnReadTags returns true at every input and lets its arguments be. -/
import Derived.Test.YthlfepgcjomhpaaRtH
import Derived.Test.YthlfepgcjomhpaaRowB
import Derived.Test.YthlfepgcjomhpaaRows
import Derived.ProofKit
namespace Go.Proofs.Ythlfepgcjomhpaa.Kf.LFnReadTags
set_option linter.unusedVariables false
set_option linter.unusedSimpArgs false
open Go Go.RowKit
open Go.ChangeShapes Go.WideShapes Go.ChangeAt
theorem own : ownKnob Try.prog.godebug = none := by kernel_rfl
theorem laidOut : laidOutB Try.prog = true := by kernel_rfl
theorem g0 : FldAt Try.prog 53 0 0 51 := ⟨_, Try.underlying53, _, rfl, rfl, rfl⟩
theorem g1 : FldAt Try.prog 53 1 1 23 := ⟨_, Try.underlying53, _, rfl, rfl, rfl⟩
set_option maxRecDepth 100000 in
theorem lifted (os : Os) (started : os.Started) (H : Type) (enc : TypeId × Value → H) :
    ReturnsInHanded {} Try.checked os 3 .any (Rows.fnReadTagsSpec.pre6 enc Try.prog Try.f3 Rows.fnReadTagsRow.domain false) (Rows.fnReadTagsSpec.post enc Try.prog Try.f3 false true false false) := by
  refine returnsInHanded_of_change (C := Try.checked) own started (by kernel_rfl) Try.func3
    (ChangeSpec.witness6 (enc := enc) (C := Try.checked) false ⟨#[], #[.slice none 0 0, .slice none 0 0], []⟩ 8 (by kernel_rfl) (by kernel_rfl) (by kernel_rfl) (by kernel_rfl)) ?_
  intro W base args ds gs before hval0 hW hcnd _
  have hval : ∀ (j : Nat) t v, Try.f3.params[j]? = some t → args[j]? = some v → Value.okWide Try.prog W .any base t v := hval0
  have hW' := hW
  obtain ⟨p, q, hA0, hV, rfl, hfz, hnd⟩ := hW
  have hA : DataW.TrodAll enc Try.prog W 0 (fun _ => true) true Try.f3.params.toList args.toList ds p := hA0
  rw [Try.params3] at hA hval
  obtain ⟨v0, vs0, d0, ds0, p0, q0, hargs, rfl, rfl, h0, r0⟩ := trodAll_cons hA
  obtain ⟨v1, vs1, d1, ds1, p1, q1, rfl, rfl, rfl, h1, r1⟩ := trodAll_cons r0
  obtain ⟨rfl, rfl, rfl⟩ := trodAll_nil r1
  obtain rfl : args = #[v0, v1] := by cases args; simp_all
  obtain ⟨u, AU, cU, rfl, hU⟩ := tgs_open Try.underlying22 g0 g1 Try.underlying23 Try.underlying5 Try.underlying51 (by kernel_rfl) (by kernel_rfl) (by kernel_rfl) (by kernel_rfl) (hval 0 22 v0 rfl rfl) h0
  obtain ⟨rest, AR, cR, rfl, hR⟩ := oc_open Try.underlying23 Try.underlying5 (by kernel_rfl) (hval 1 23 v1 rfl rfl) h1
  refine (law_rt hU hR).mono fun e W' ⟨he, hO⟩ => ?_
  subst he
  exact ⟨_, rfl, law_post laidOut hW' rfl (by
    rw [Try.params3]
    intro t ht
    have e : t = 22 ∨ t = 23 := (by simpa using ht)
    rcases e with rfl | rfl <;> exact ⟨by kernel_rfl, of_decide_eq_true (by kernel_rfl)⟩) rfl rfl rfl (by kernel_rfl) Try.underlying4 hO⟩
set_option maxRecDepth 100000 in
theorem closed : joinedFacts Try.pinned.checked.prog 3 Try.f3 (OpenSpec.ofChange Rows.fnReadTagsSpec).bare Rows.fnReadTagsRow = true := by kernel_rfl
set_option maxRecDepth 100000 in
theorem named : Try.pinned.checked.prog.funcNamed Rows.fnReadTagsRow.func = some 3 := by kernel_rfl
set_option maxRecDepth 100000 in
theorem said : Rows.FnReadTagsSaid :=
  OpenClaim.holds_of_wide 3 Try.f3 rfl rfl rfl rfl rfl rfl rfl ⟨rfl, rfl, rfl, rfl, rfl⟩ rfl rfl rfl rfl rfl named Try.func3 closed
    (of_decide_eq_true (by kernel_rfl)) (by unfold Func.isWrapper; first | (rw [if_pos (by decide +kernel)]; kernel_rfl) | (rw [if_neg (by decide +kernel)]; exact ⟨rfl, rfl⟩))
    (fun os started H enc _ => lifted os started H enc)
end Go.Proofs.Ythlfepgcjomhpaa.Kf.LFnReadTags
