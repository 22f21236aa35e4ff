/- The reference's own fields of TxnMetadataKey. -/
import Derived.Test.YtfimokbgggimmaaDoorSpF
import Derived.Test.YtfimokbgggimmaaDoorLawA
import Derived.Handy
namespace Go.Proofs.YtfimokbgggimmaaDoor.Kf.YTxnMetadataKey
set_option linter.unusedVariables false
set_option linter.unusedSimpArgs false
open Go Go.RowKit

def fs9 : List Fld := [.mk 8 0 (-1) (-1) (-1) 0 0 []]
set_option maxRecDepth 100000 in
theorem sp9 (w : World) : Calls Tryd.prog 9 #[] w (SpecP fs9 (-1) w) := by
  go_enter Tryd.func9, Tryd.ntmps9
  go_wp2_with fail
  go_returns
  exact ⟨_, _, _, rfl, flds_new (new2 _ _ _) (by simp) (.leaf .nil), ((Only.refl _ _).alloc _).alloc _⟩
/-- The message's fields, its first flexible version. -/
def fs : List Fld := fs9
def fx : Int := (-1)
theorem spec (w : World) : Calls Tryd.prog 9 #[] w (SpecP fs fx w) := sp9 w

end Go.Proofs.YtfimokbgggimmaaDoor.Kf.YTxnMetadataKey
