/- The reference's own fields of GetTelemetrySubscriptionsRequest. -/
import Derived.Test.YtjphodjbflgbaaaDoorPS
import Derived.Test.YtjphodjbflgbaaaDoorLawA
import Derived.Handy
namespace Go.Proofs.YtjphodjbflgbaaaDoor.Kf.YGetTelemetrySubscriptionsRequest
set_option linter.unusedVariables false
set_option linter.unusedSimpArgs false
open Go Go.RowKit

def fs10 : List Fld := [.mk 7 0 (-1) (-1) (-1) 0 0 []]
set_option maxRecDepth 100000 in
theorem sp10 (w : World) : Calls Tryd.prog 10 #[] w (SpecP fs10 0 w) := by
  go_enter Tryd.func10, Tryd.ntmps10
  go_wp2_with fail
  go_returns
  exact ⟨_, _, _, rfl, flds_new (new2 _ _ _) (by simp) (.leaf .nil), ((Only.refl _ _).alloc _).alloc _⟩
/-- The message's fields, its first flexible version. -/
def fs : List Fld := fs10
def fx : Int := 0
theorem spec (w : World) : Calls Tryd.prog 10 #[] w (SpecP fs fx w) := sp10 w

end Go.Proofs.YtjphodjbflgbaaaDoor.Kf.YGetTelemetrySubscriptionsRequest
