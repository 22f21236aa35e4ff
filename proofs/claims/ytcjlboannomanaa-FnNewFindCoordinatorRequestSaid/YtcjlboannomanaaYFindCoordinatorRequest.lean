/- The reference's own fields of FindCoordinatorRequest. -/
import Derived.Test.YtcjlboannomanaaPS
import Derived.Test.YtcjlboannomanaaLawA
import Derived.Handy
namespace Go.Proofs.Ytcjlboannomanaa.Kf.YFindCoordinatorRequest
set_option linter.unusedVariables false
set_option linter.unusedSimpArgs false
open Go Go.RowKit

def fs22 : List Fld := [.mk 8 0 3 (-1) (-1) 0 0 [], .mk 1 1 (-1) (-1) (-1) 0 0 [], .mk 11 4 (-1) (-1) (-1) 0 8 []]
set_option maxRecDepth 100000 in
theorem sp22 (w : World) : Calls Try.prog 22 #[] w (SpecP fs22 3 w) := by
  go_enter Try.func22, Try.ntmps22
  go_wp2_with fail
  go_returns
  exact ⟨_, _, _, rfl, flds_new (new2 _ _ _) (by simp) (.leaf (.leaf (.leaf .nil))), ((Only.refl _ _).alloc _).alloc _⟩
/-- The message's fields, its first flexible version. -/
def fs : List Fld := fs22
def fx : Int := 3
theorem spec (w : World) : Calls Try.prog 22 #[] w (SpecP fs fx w) := sp22 w

end Go.Proofs.Ytcjlboannomanaa.Kf.YFindCoordinatorRequest
