import Derived.Test.YtfimokbgggimmaaPFnACLResourceTypeWordsx1
namespace Go.Proofs.Ytfimokbgggimmaa.Pure
open Go.RowKit Go.Proofs.Ytfimokbgggimmaa.PFnACLResourceTypeWords Go.Proofs.YtfimokbgggimmaaW.PrintWords Go.Proofs.YtfimokbgggimmaaW.PrintLast

/-- YOURS: ∃ k, laws_FnACLResourceTypeWords.f k  = some true
What it reaches (each with k first where it has rounds; `.mono`: more rounds tell the same; `.l0`, ..: its loops, with `.mono_l`): laws_sameWords.f, kmsg_ACLResourceTypeStrings.f, impl_ACLResourceTypeStrings.f, spec_Words.f, spec_ACLResourceType.f, laws_FnACLResourceTypeWords.f -/
theorem FnACLResourceTypeWords : laws_FnACLResourceTypeWords.Pure := by
  exact ⟨20, by decide +kernel⟩

end Go.Proofs.Ytfimokbgggimmaa.Pure
