/- The reference's own fields of SASLHandshakeRequest. -/
import Derived.Test.YtjphodjbflgbaaaPS
import Derived.Test.YtjphodjbflgbaaaLawA
import Derived.Handy
namespace Go.Proofs.Ytjphodjbflgbaaa.Kf.YSASLHandshakeRequest
set_option linter.unusedVariables false
set_option linter.unusedSimpArgs false
open Go Go.RowKit

def fs6 : List Fld := [.mk 8 0 (-1) (-1) (-1) 0 0 []]
set_option maxRecDepth 100000 in
theorem sp6 (w : World) : Calls Try.prog 6 #[] w (SpecP fs6 (-1) w) := by
  go_enter Try.func6, Try.ntmps6
  go_wp2_with fail
  go_returns
  exact ⟨_, _, _, rfl, flds_new (new2 _ _ _) (by simp) (.leaf .nil), ((Only.refl _ _).alloc _).alloc _⟩
/-- The message's fields, its first flexible version. -/
def fs : List Fld := fs6
def fx : Int := (-1)
theorem spec (w : World) : Calls Try.prog 6 #[] w (SpecP fs fx w) := sp6 w

end Go.Proofs.Ytjphodjbflgbaaa.Kf.YSASLHandshakeRequest
