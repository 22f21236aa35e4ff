/- The reference's own fields of DeleteGroupsRequest. -/
import Derived.Test.YtidhhlncmegjaaaGreatDoorPS
import Derived.Test.YtidhhlncmegjaaaGreatDoorLawA
import Derived.Handy
namespace Go.Proofs.YtidhhlncmegjaaaGreatDoor.Kf.YDeleteGroupsRequest
set_option linter.unusedVariables false
set_option linter.unusedSimpArgs false
open Go Go.RowKit

def fs9 : List Fld := [.mk 11 0 (-1) (-1) (-1) 0 8 []]
set_option maxRecDepth 100000 in
theorem sp9 (w : World) : Calls Tryz.prog 9 #[] w (SpecP fs9 2 w) := by
  go_enter Tryz.func9, Tryz.ntmps9
  go_wp2_with fail
  go_returns
  exact ⟨_, _, _, rfl, flds_new (new2 _ _ _) (by simp) (.leaf .nil), ((Only.refl _ _).alloc _).alloc _⟩
/-- The message's fields, its first flexible version. -/
def fs : List Fld := fs9
def fx : Int := 2
theorem spec (w : World) : Calls Tryz.prog 9 #[] w (SpecP fs fx w) := sp9 w

end Go.Proofs.YtidhhlncmegjaaaGreatDoor.Kf.YDeleteGroupsRequest
