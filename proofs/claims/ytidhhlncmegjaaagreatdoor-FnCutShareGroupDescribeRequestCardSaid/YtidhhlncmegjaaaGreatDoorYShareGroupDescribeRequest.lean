/- The reference's own fields of ShareGroupDescribeRequest. -/
import Derived.Test.YtidhhlncmegjaaaGreatDoorPS
import Derived.Test.YtidhhlncmegjaaaGreatDoorLawA
import Derived.Handy
namespace Go.Proofs.YtidhhlncmegjaaaGreatDoor.Kf.YShareGroupDescribeRequest
set_option linter.unusedVariables false
set_option linter.unusedSimpArgs false
open Go Go.RowKit

def fs14 : List Fld := [.mk 11 0 (-1) (-1) (-1) 0 8 [], .mk 0 0 (-1) (-1) (-1) 0 0 []]
set_option maxRecDepth 100000 in
theorem sp14 (w : World) : Calls Tryz.prog 14 #[] w (SpecP fs14 0 w) := by
  go_enter Tryz.func14, Tryz.ntmps14
  go_wp2_with fail
  go_returns
  exact ⟨_, _, _, rfl, flds_new (new2 _ _ _) (by simp) (.leaf (.leaf .nil)), ((Only.refl _ _).alloc _).alloc _⟩
/-- The message's fields, its first flexible version. -/
def fs : List Fld := fs14
def fx : Int := 0
theorem spec (w : World) : Calls Tryz.prog 14 #[] w (SpecP fs fx w) := sp14 w

end Go.Proofs.YtidhhlncmegjaaaGreatDoor.Kf.YShareGroupDescribeRequest
