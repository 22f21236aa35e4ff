/- The functions that write, as the writing theorem wants them. -/
import Derived.Test.YtfimokbgggimmaaDoorKbK
namespace Go.Proofs.YtfimokbgggimmaaDoor.Kf
set_option linter.unusedVariables false
set_option linter.unusedSimpArgs false
open Go Go.RowKit

theorem app_i16C : AppC Tryd.prog 5 44 (.prim .i16) := AppN.c (by decide) app_i16
theorem app_i32C : AppC Tryd.prog 5 61 (.prim .i32) := AppN.c (by decide) app_i32
theorem app_u16C : AppC Tryd.prog 5 66 (.prim .u16) := AppN.c (by decide) app_u16
theorem app_strC : AppC Tryd.prog 5 45 (.str false false) := by
  refine ⟨plain_g Tryd.func45 rfl rfl, fun D base w dst ds lo hi cs x hown hx hw hdb hb hl => ?_⟩
  rcases hx with ⟨_, s, rfl, rfl⟩ | ⟨h, _⟩
  · have e : (enc (RK.str false false).m.w (.bytes (some s))).length = (cntEnc false 2 (some s.length)).length + s.length := by simp [RK.m, M.w, enc]
    exact app_str base w dst ds s hown hw hb (by omega)
  · cases h
end Go.Proofs.YtfimokbgggimmaaDoor.Kf
