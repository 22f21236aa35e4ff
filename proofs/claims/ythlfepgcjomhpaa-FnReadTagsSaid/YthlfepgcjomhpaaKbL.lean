/- The functions that write, as the writing theorem wants them. -/
import Derived.Test.YthlfepgcjomhpaaKbK
namespace Go.Proofs.Ythlfepgcjomhpaa.Kf
set_option linter.unusedVariables false
set_option linter.unusedSimpArgs false
open Go Go.RowKit

theorem app_i16C : AppC Try.prog 5 44 (.prim .i16) := AppN.c (by decide) app_i16
theorem app_i32C : AppC Try.prog 5 43 (.prim .i32) := AppN.c (by decide) app_i32
theorem app_i64C : AppC Try.prog 5 45 (.prim .i64) := AppN.c (by decide) app_i64
theorem app_u16C : AppC Try.prog 5 66 (.prim .u16) := AppN.c (by decide) app_u16
theorem app_strC : AppC Try.prog 5 41 (.str false false) := by
  refine ⟨plain_g Try.func41 rfl rfl, fun D base w dst ds lo hi cs x hown hx hw hdb hb hl => ?_⟩
  rcases hx with ⟨_, s, rfl, rfl⟩ | ⟨h, _⟩
  · have e : (enc (RK.str false false).m.w (.bytes (some s))).length = (cntEnc false 2 (some s.length)).length + s.length := by simp [RK.m, M.w, enc]
    exact app_str base w dst ds s hown hw hb (by omega)
  · cases h
theorem app_cstrC : AppC Try.prog 5 40 (.str true false) := by
  refine ⟨plain_g Try.func40 rfl rfl, fun D base w dst ds lo hi cs x hown hx hw hdb hb hl => ?_⟩
  rcases hx with ⟨_, s, rfl, rfl⟩ | ⟨h, _⟩
  · have e : (enc (RK.str true false).m.w (.bytes (some s))).length = (cntEnc true 2 (some s.length)).length + s.length := by simp [RK.m, M.w, enc]
    exact app_cstr base w dst ds s hown hw hb (by omega)
  · cases h
set_option maxRecDepth 100000 in
theorem app_nstrC : AppC Try.prog 5 47 (.str false true) := by
  refine ⟨plain_g Try.func47 rfl rfl, fun D base w dst ds lo hi cs x hown hx hw hdb hb hl => ?_⟩
  rcases hx with ⟨h, _⟩ | ⟨_, ⟨rfl, rfl⟩ | ⟨s, b, rfl, rfl, hlo, hhi, hcell⟩⟩
  · cases h
  · show Calls Try.prog 47 #[dst, .pointer none] w (AppP 5 base w (ds ++ (cntEnc false 2 none ++ [])))
    rw [List.append_nil]
    have cA := Lib.hid (app_i16.2 base w dst ds (-1) hown (by omega) (by omega) hb (by omega))
    clear hb hown hl hw
    go_enter Try.func47, Try.ntmps47
    go_wp2_with (go_at_call 44; refine cA.out.mono ?_; rintro e1 w1 ⟨v1, rfl, ho1, hw1⟩; have HO1 := Lib.hid ho1; have HW1 := Lib.hid hw1; clear ho1 hw1)
    go_ret
    exact ⟨_, rfl, HO1.out, HW1.out⟩
  · have e : (enc (RK.str false true).m.w (.bytes (some s))).length = (cntEnc false 2 (some s.length)).length + s.length := by simp [RK.m, M.w, enc]
    have cA := Lib.hid (app_str base w dst ds s hown hw hb (by omega))
    have hcell2 : w.cell? ⟨b, 0, none⟩ = some (.string ⟨s.toArray⟩) := hcell
    show Calls Try.prog 47 #[dst, .pointer (some ⟨b, 0, none⟩)] w (AppP 5 base w (ds ++ (cntEnc false 2 (some s.length) ++ s)))
    clear hb hown hl hw e hcell
    go_enter Try.func47, Try.ntmps47
    go_wp2_with (go_at_call 41; refine cA.out.mono ?_; rintro e1 w1 ⟨v1, rfl, ho1, hw1⟩; have HO1 := Lib.hid ho1; have HW1 := Lib.hid hw1; clear ho1 hw1)
    go_ret
    exact ⟨_, rfl, HO1.out, HW1.out⟩
set_option maxRecDepth 100000 in
theorem app_cnstrC : AppC Try.prog 5 46 (.str true true) := by
  refine ⟨plain_g Try.func46 rfl rfl, fun D base w dst ds lo hi cs x hown hx hw hdb hb hl => ?_⟩
  rcases hx with ⟨h, _⟩ | ⟨_, ⟨rfl, rfl⟩ | ⟨s, b, rfl, rfl, hlo, hhi, hcell⟩⟩
  · cases h
  · show Calls Try.prog 46 #[dst, .pointer none] w (AppP 5 base w (ds ++ (cntEnc true 2 none ++ [])))
    rw [List.append_nil]
    have cA := Lib.hid (app_uvarint.2 base w dst ds 0 hown (by omega) hb (by omega))
    clear hb hown hl hw
    go_enter Try.func46, Try.ntmps46
    go_wp2_with (go_at_call 48; refine cA.out.mono ?_; rintro e1 w1 ⟨v1, rfl, ho1, hw1⟩; have HO1 := Lib.hid ho1; have HW1 := Lib.hid hw1; clear ho1 hw1)
    go_ret
    exact ⟨_, rfl, HO1.out, HW1.out⟩
  · have e : (enc (RK.str true true).m.w (.bytes (some s))).length = (cntEnc true 2 (some s.length)).length + s.length := by simp [RK.m, M.w, enc]
    have cA := Lib.hid (app_cstr base w dst ds s hown hw hb (by omega))
    have hcell2 : w.cell? ⟨b, 0, none⟩ = some (.string ⟨s.toArray⟩) := hcell
    show Calls Try.prog 46 #[dst, .pointer (some ⟨b, 0, none⟩)] w (AppP 5 base w (ds ++ (cntEnc true 2 (some s.length) ++ s)))
    clear hb hown hl hw e hcell
    go_enter Try.func46, Try.ntmps46
    go_wp2_with (go_at_call 40; refine cA.out.mono ?_; rintro e1 w1 ⟨v1, rfl, ho1, hw1⟩; have HO1 := Lib.hid ho1; have HW1 := Lib.hid hw1; clear ho1 hw1)
    go_ret
    exact ⟨_, rfl, HO1.out, HW1.out⟩
end Go.Proofs.Ythlfepgcjomhpaa.Kf
