/- The reference's own fields of ListTransactionsRequest. -/
import Derived.Test.YtcjlboannomanaaPS
import Derived.Test.YtcjlboannomanaaLawA
import Derived.Handy
namespace Go.Proofs.Ytcjlboannomanaa.Kf.YListTransactionsRequest
set_option linter.unusedVariables false
set_option linter.unusedSimpArgs false
open Go Go.RowKit

def fs38 : List Fld := [.mk 11 0 (-1) (-1) (-1) 0 8 [], .mk 11 0 (-1) (-1) (-1) 0 4 [], .mk 4 1 (-1) (-1) (-1) (-1) 0 [], .mk 8 2 (-1) 2 (-1) 0 0 []]
set_option maxRecDepth 100000 in
theorem sp38 (w : World) : Calls Try.prog 38 #[] w (SpecP fs38 0 w) := by
  go_enter Try.func38, Try.ntmps38
  go_wp2_with fail
  go_returns
  exact ⟨_, _, _, rfl, flds_new (new2 _ _ _) (by simp) (.leaf (.leaf (.leaf (.leaf .nil)))), ((Only.refl _ _).alloc _).alloc _⟩
/-- The message's fields, its first flexible version. -/
def fs : List Fld := fs38
def fx : Int := 0
theorem spec (w : World) : Calls Try.prog 38 #[] w (SpecP fs fx w) := sp38 w

end Go.Proofs.Ytcjlboannomanaa.Kf.YListTransactionsRequest
