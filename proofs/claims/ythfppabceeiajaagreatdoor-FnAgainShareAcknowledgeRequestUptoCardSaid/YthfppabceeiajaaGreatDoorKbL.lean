/- The functions that write, as the writing theorem wants them. -/
import Derived.Test.YthfppabceeiajaaGreatDoorKbK
namespace Go.Proofs.YthfppabceeiajaaGreatDoor.Kf
set_option linter.unusedVariables false
set_option linter.unusedSimpArgs false
open Go Go.RowKit

theorem app_boolC : AppC Tryz.prog 5 84 (.prim .bool) := AppN.c (by decide) app_bool
theorem app_i8C : AppC Tryz.prog 5 80 (.prim .i8) := AppN.c (by decide) app_i8
theorem app_i16C : AppC Tryz.prog 5 66 (.prim .i16) := AppN.c (by decide) app_i16
theorem app_i32C : AppC Tryz.prog 5 65 (.prim .i32) := AppN.c (by decide) app_i32
theorem app_i64C : AppC Tryz.prog 5 69 (.prim .i64) := AppN.c (by decide) app_i64
theorem app_u16C : AppC Tryz.prog 5 107 (.prim .u16) := AppN.c (by decide) app_u16
theorem app_strC : AppC Tryz.prog 5 76 (.str false false) := by
  refine ⟨plain_g Tryz.func76 rfl rfl, fun D base w dst ds lo hi cs x hown hx hw hdb hb hl => ?_⟩
  rcases hx with ⟨_, s, rfl, rfl⟩ | ⟨h, _⟩
  · have e : (enc (RK.str false false).m.w (.bytes (some s))).length = (cntEnc false 2 (some s.length)).length + s.length := by simp [RK.m, M.w, enc]
    exact app_str base w dst ds s hown hw hb (by omega)
  · cases h
theorem app_cstrC : AppC Tryz.prog 5 75 (.str true false) := by
  refine ⟨plain_g Tryz.func75 rfl rfl, fun D base w dst ds lo hi cs x hown hx hw hdb hb hl => ?_⟩
  rcases hx with ⟨_, s, rfl, rfl⟩ | ⟨h, _⟩
  · have e : (enc (RK.str true false).m.w (.bytes (some s))).length = (cntEnc true 2 (some s.length)).length + s.length := by simp [RK.m, M.w, enc]
    exact app_cstr base w dst ds s hown hw hb (by omega)
  · cases h
set_option maxRecDepth 100000 in
theorem app_nstrC : AppC Tryz.prog 5 68 (.str false true) := by
  refine ⟨plain_g Tryz.func68 rfl rfl, fun D base w dst ds lo hi cs x hown hx hw hdb hb hl => ?_⟩
  rcases hx with ⟨h, _⟩ | ⟨_, ⟨rfl, rfl⟩ | ⟨s, b, rfl, rfl, hlo, hhi, hcell⟩⟩
  · cases h
  · show Calls Tryz.prog 68 #[dst, .pointer none] w (AppP 5 base w (ds ++ (cntEnc false 2 none ++ [])))
    rw [List.append_nil]
    have cA := Lib.hid (app_i16.2 base w dst ds (-1) hown (by omega) (by omega) hb (by omega))
    clear hb hown hl hw
    go_enter Tryz.func68, Tryz.ntmps68
    go_wp2_with (go_at_call 66; refine cA.out.mono ?_; rintro e1 w1 ⟨v1, rfl, ho1, hw1⟩; have HO1 := Lib.hid ho1; have HW1 := Lib.hid hw1; clear ho1 hw1)
    go_ret
    exact ⟨_, rfl, HO1.out, HW1.out⟩
  · have e : (enc (RK.str false true).m.w (.bytes (some s))).length = (cntEnc false 2 (some s.length)).length + s.length := by simp [RK.m, M.w, enc]
    have cA := Lib.hid (app_str base w dst ds s hown hw hb (by omega))
    have hcell2 : w.cell? ⟨b, 0, none⟩ = some (.string ⟨s.toArray⟩) := hcell
    show Calls Tryz.prog 68 #[dst, .pointer (some ⟨b, 0, none⟩)] w (AppP 5 base w (ds ++ (cntEnc false 2 (some s.length) ++ s)))
    clear hb hown hl hw e hcell
    go_enter Tryz.func68, Tryz.ntmps68
    go_wp2_with (go_at_call 76; refine cA.out.mono ?_; rintro e1 w1 ⟨v1, rfl, ho1, hw1⟩; have HO1 := Lib.hid ho1; have HW1 := Lib.hid hw1; clear ho1 hw1)
    go_ret
    exact ⟨_, rfl, HO1.out, HW1.out⟩
set_option maxRecDepth 100000 in
theorem app_cnstrC : AppC Tryz.prog 5 67 (.str true true) := by
  refine ⟨plain_g Tryz.func67 rfl rfl, fun D base w dst ds lo hi cs x hown hx hw hdb hb hl => ?_⟩
  rcases hx with ⟨h, _⟩ | ⟨_, ⟨rfl, rfl⟩ | ⟨s, b, rfl, rfl, hlo, hhi, hcell⟩⟩
  · cases h
  · show Calls Tryz.prog 67 #[dst, .pointer none] w (AppP 5 base w (ds ++ (cntEnc true 2 none ++ [])))
    rw [List.append_nil]
    have cA := Lib.hid (app_uvarint.2 base w dst ds 0 hown (by omega) hb (by omega))
    clear hb hown hl hw
    go_enter Tryz.func67, Tryz.ntmps67
    go_wp2_with (go_at_call 70; refine cA.out.mono ?_; rintro e1 w1 ⟨v1, rfl, ho1, hw1⟩; have HO1 := Lib.hid ho1; have HW1 := Lib.hid hw1; clear ho1 hw1)
    go_ret
    exact ⟨_, rfl, HO1.out, HW1.out⟩
  · have e : (enc (RK.str true true).m.w (.bytes (some s))).length = (cntEnc true 2 (some s.length)).length + s.length := by simp [RK.m, M.w, enc]
    have cA := Lib.hid (app_cstr base w dst ds s hown hw hb (by omega))
    have hcell2 : w.cell? ⟨b, 0, none⟩ = some (.string ⟨s.toArray⟩) := hcell
    show Calls Tryz.prog 67 #[dst, .pointer (some ⟨b, 0, none⟩)] w (AppP 5 base w (ds ++ (cntEnc true 2 (some s.length) ++ s)))
    clear hb hown hl hw e hcell
    go_enter Tryz.func67, Tryz.ntmps67
    go_wp2_with (go_at_call 75; refine cA.out.mono ?_; rintro e1 w1 ⟨v1, rfl, ho1, hw1⟩; have HO1 := Lib.hid ho1; have HW1 := Lib.hid hw1; clear ho1 hw1)
    go_ret
    exact ⟨_, rfl, HO1.out, HW1.out⟩
end Go.Proofs.YthfppabceeiajaaGreatDoor.Kf
