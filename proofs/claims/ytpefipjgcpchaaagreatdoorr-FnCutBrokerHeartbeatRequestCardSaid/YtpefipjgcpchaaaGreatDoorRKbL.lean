/- The functions that write, as the writing theorem wants them. -/
import Derived.Test.YtpefipjgcpchaaaGreatDoorRKbK
namespace Go.Proofs.YtpefipjgcpchaaaGreatDoorR.Kf
set_option linter.unusedVariables false
set_option linter.unusedSimpArgs false
open Go Go.RowKit

theorem app_boolC : AppC Tryz.prog 5 42 (.prim .bool) := AppN.c (by decide) app_bool
theorem app_i16C : AppC Tryz.prog 5 54 (.prim .i16) := AppN.c (by decide) app_i16
theorem app_i32C : AppC Tryz.prog 5 40 (.prim .i32) := AppN.c (by decide) app_i32
theorem app_i64C : AppC Tryz.prog 5 41 (.prim .i64) := AppN.c (by decide) app_i64
theorem app_u16C : AppC Tryz.prog 5 57 (.prim .u16) := AppN.c (by decide) app_u16
theorem app_strC : AppC Tryz.prog 5 56 (.str false false) := by
  refine ⟨plain_g Tryz.func56 rfl rfl, fun D base w dst ds lo hi cs x hown hx hw hdb hb hl => ?_⟩
  rcases hx with ⟨_, s, rfl, rfl⟩ | ⟨h, _⟩
  · have e : (enc (RK.str false false).m.w (.bytes (some s))).length = (cntEnc false 2 (some s.length)).length + s.length := by simp [RK.m, M.w, enc]
    exact app_str base w dst ds s hown hw hb (by omega)
  · cases h
theorem app_cstrC : AppC Tryz.prog 5 55 (.str true false) := by
  refine ⟨plain_g Tryz.func55 rfl rfl, fun D base w dst ds lo hi cs x hown hx hw hdb hb hl => ?_⟩
  rcases hx with ⟨_, s, rfl, rfl⟩ | ⟨h, _⟩
  · have e : (enc (RK.str true false).m.w (.bytes (some s))).length = (cntEnc true 2 (some s.length)).length + s.length := by simp [RK.m, M.w, enc]
    exact app_cstr base w dst ds s hown hw hb (by omega)
  · cases h
end Go.Proofs.YtpefipjgcpchaaaGreatDoorR.Kf
