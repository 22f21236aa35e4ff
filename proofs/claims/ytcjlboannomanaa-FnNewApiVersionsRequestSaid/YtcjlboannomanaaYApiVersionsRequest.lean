/- The reference's own fields of ApiVersionsRequest. -/
import Derived.Test.YtcjlboannomanaaPS
import Derived.Test.YtcjlboannomanaaLawA
import Derived.Handy
namespace Go.Proofs.Ytcjlboannomanaa.Kf.YApiVersionsRequest
set_option linter.unusedVariables false
set_option linter.unusedSimpArgs false
open Go Go.RowKit

def fs29 : List Fld := [.mk 8 3 (-1) (-1) (-1) 0 0 [], .mk 8 3 (-1) (-1) (-1) 0 0 [], .mk 8 5 (-1) 5 (-1) 0 0 [], .mk 3 5 (-1) (-1) (-1) (-1) 0 []]
set_option maxRecDepth 100000 in
theorem sp29 (w : World) : Calls Try.prog 29 #[] w (SpecP fs29 3 w) := by
  go_enter Try.func29, Try.ntmps29
  go_wp2_with fail
  go_returns
  exact ⟨_, _, _, rfl, flds_new (new2 _ _ _) (by simp) (.leaf (.leaf (.leaf (.leaf .nil)))), ((Only.refl _ _).alloc _).alloc _⟩
/-- The message's fields, its first flexible version. -/
def fs : List Fld := fs29
def fx : Int := 3
theorem spec (w : World) : Calls Try.prog 29 #[] w (SpecP fs fx w) := sp29 w

end Go.Proofs.Ytcjlboannomanaa.Kf.YApiVersionsRequest
