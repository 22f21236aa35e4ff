/- The reference's own fields of EnvelopeResponse. -/
import Derived.Test.YtidhhlncmegjaaaDoorPS
import Derived.Test.YtidhhlncmegjaaaDoorLawA
import Derived.Handy
namespace Go.Proofs.YtidhhlncmegjaaaDoor.Kf.YEnvelopeResponse
set_option linter.unusedVariables false
set_option linter.unusedSimpArgs false
open Go Go.RowKit

def fs30 : List Fld := [.mk 9 0 (-1) 0 (-1) 0 0 [], .mk 2 0 (-1) (-1) (-1) 0 0 []]
set_option maxRecDepth 100000 in
theorem sp30 (w : World) : Calls Tryd.prog 30 #[] w (SpecP fs30 0 w) := by
  go_enter Tryd.func30, Tryd.ntmps30
  go_wp2_with fail
  go_returns
  exact ⟨_, _, _, rfl, flds_new (new2 _ _ _) (by simp) (.leaf (.leaf .nil)), ((Only.refl _ _).alloc _).alloc _⟩
/-- The message's fields, its first flexible version. -/
def fs : List Fld := fs30
def fx : Int := 0
theorem spec (w : World) : Calls Tryd.prog 30 #[] w (SpecP fs fx w) := sp30 w

end Go.Proofs.YtidhhlncmegjaaaDoor.Kf.YEnvelopeResponse
