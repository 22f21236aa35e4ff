/- The reference's own fields of GroupMetadataKey. -/
import Derived.Test.YtfimokbgggimmaaDoorSpF
import Derived.Test.YtfimokbgggimmaaDoorLawA
import Derived.Handy
namespace Go.Proofs.YtfimokbgggimmaaDoor.Kf.YGroupMetadataKey
set_option linter.unusedVariables false
set_option linter.unusedSimpArgs false
open Go Go.RowKit

def fs13 : List Fld := [.mk 8 0 (-1) (-1) (-1) 0 0 []]
set_option maxRecDepth 100000 in
theorem sp13 (w : World) : Calls Tryd.prog 13 #[] w (SpecP fs13 (-1) w) := by
  go_enter Tryd.func13, Tryd.ntmps13
  go_wp2_with fail
  go_returns
  exact ⟨_, _, _, rfl, flds_new (new2 _ _ _) (by simp) (.leaf .nil), ((Only.refl _ _).alloc _).alloc _⟩
/-- The message's fields, its first flexible version. -/
def fs : List Fld := fs13
def fx : Int := (-1)
theorem spec (w : World) : Calls Tryd.prog 13 #[] w (SpecP fs fx w) := sp13 w

end Go.Proofs.YtfimokbgggimmaaDoor.Kf.YGroupMetadataKey
