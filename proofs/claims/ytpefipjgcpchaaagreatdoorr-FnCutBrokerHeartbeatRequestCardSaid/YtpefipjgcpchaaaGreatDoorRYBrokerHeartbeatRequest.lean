/- The reference's own fields of BrokerHeartbeatRequest. -/
import Derived.Test.YtpefipjgcpchaaaGreatDoorRPS
import Derived.Test.YtpefipjgcpchaaaGreatDoorRLawA
import Derived.Handy
namespace Go.Proofs.YtpefipjgcpchaaaGreatDoorR.Kf.YBrokerHeartbeatRequest
set_option linter.unusedVariables false
set_option linter.unusedSimpArgs false
open Go Go.RowKit

def fs8 : List Fld := [.mk 3 0 (-1) (-1) (-1) 0 0 [], .mk 4 0 (-1) (-1) (-1) (-1) 0 [], .mk 4 0 (-1) (-1) (-1) 0 0 [], .mk 0 0 (-1) (-1) (-1) 0 0 [], .mk 0 0 (-1) (-1) (-1) 0 0 [], .mk 11 0 (-1) (-1) 0 0 7 [], .mk 11 0 (-1) (-1) 1 0 7 []]
set_option maxRecDepth 100000 in
set_option maxHeartbeats 1000000 in
theorem sp8 (w : World) : Calls Tryz.prog 8 #[] w (SpecP fs8 0 w) := by
  go_enter Tryz.func8, Tryz.ntmps8
  go_wp2_with fail
  go_returns
  exact ⟨_, _, _, rfl, flds_new (new2 _ _ _) (by simp) (.leaf (.leaf (.leaf (.leaf (.leaf (.leaf (.leaf .nil))))))), ((Only.refl _ _).alloc _).alloc _⟩
/-- The message's fields, its first flexible version. -/
def fs : List Fld := fs8
def fx : Int := 0
theorem spec (w : World) : Calls Tryz.prog 8 #[] w (SpecP fs fx w) := sp8 w

end Go.Proofs.YtpefipjgcpchaaaGreatDoorR.Kf.YBrokerHeartbeatRequest
