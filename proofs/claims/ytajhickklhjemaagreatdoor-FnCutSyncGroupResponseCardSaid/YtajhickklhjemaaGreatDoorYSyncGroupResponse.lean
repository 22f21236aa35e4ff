/- The reference's own fields of SyncGroupResponse. -/
import Derived.Test.YtajhickklhjemaaGreatDoorPS
import Derived.Test.YtajhickklhjemaaGreatDoorLawA
import Derived.Handy
namespace Go.Proofs.YtajhickklhjemaaGreatDoor.Kf.YSyncGroupResponse
set_option linter.unusedVariables false
set_option linter.unusedSimpArgs false
open Go Go.RowKit

def fs33 : List Fld := [.mk 3 1 (-1) (-1) (-1) 0 0 [], .mk 2 0 (-1) (-1) (-1) 0 0 [], .mk 8 5 (-1) 5 (-1) 0 0 [], .mk 8 5 (-1) 5 (-1) 0 0 [], .mk 9 0 (-1) (-1) (-1) 0 0 []]
set_option maxRecDepth 100000 in
theorem sp33 (w : World) : Calls Tryz.prog 33 #[] w (SpecP fs33 4 w) := by
  go_enter Tryz.func33, Tryz.ntmps33
  go_wp2_with fail
  go_returns
  exact ⟨_, _, _, rfl, flds_new (new2 _ _ _) (by simp) (.leaf (.leaf (.leaf (.leaf (.leaf .nil))))), ((Only.refl _ _).alloc _).alloc _⟩
/-- The message's fields, its first flexible version. -/
def fs : List Fld := fs33
def fx : Int := 4
theorem spec (w : World) : Calls Tryz.prog 33 #[] w (SpecP fs fx w) := sp33 w

end Go.Proofs.YtajhickklhjemaaGreatDoor.Kf.YSyncGroupResponse
