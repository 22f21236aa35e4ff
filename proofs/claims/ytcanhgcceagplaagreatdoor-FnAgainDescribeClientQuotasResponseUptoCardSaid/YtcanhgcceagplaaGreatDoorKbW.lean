/- Numbers that float: read, written. -/
import Derived.Test.YtcanhgcceagplaaGreatDoorKbF
import Derived.Test.YtcanhgcceagplaaGreatDoorKbH
import Derived.Test.YtcanhgcceagplaaGreatDoorKbL
namespace Go.Proofs.YtcanhgcceagplaaGreatDoor.Kf
set_option linter.unusedVariables false
set_option linter.unusedSimpArgs false
open Go Go.RowKit

set_option maxRecDepth 100000 in
theorem rd_f64 : NumC Tryz.prog 111 .f64 := by
  refine ⟨plain_f' Tryz.func111 rfl rfl, fun D rb w nn bs bad h hl => ?_⟩
  have cI := Lib.hid (rd_u64.2 D rb w nn bs bad h hl)
  clear h hl
  have hx : ∀ (n : Int) (w : World), (callFunc 132 #[.int .u64 n]).run Tryz.prog w = .ok (.value (.float .f64 n.toNat)) w := fun n w => by kernel_rfl
  go_enter Tryz.func111, Tryz.ntmps111
  go_wp2_with (go_at_call 133; refine cI.out.mono ?_; rintro e0 w1 ⟨n, rfl, h0, h1, ho, hR⟩; have HO := Lib.hid ho; have HC := Lib.hid hR; have H0 := Lib.hid h0; have H1 := Lib.hid h1; clear ho hR h0 h1)
  go_ret
  exact ⟨n, rfl, H0.out, H1.out, HO.out, HC.out⟩
set_option maxRecDepth 100000 in
theorem app_f64 : AppN Tryz.prog 5 75 (primV .f64) 0 18446744073709551616 8 := by
  refine ⟨plain_g Tryz.func75 rfl rfl, fun base w dst ds n hown h0 h1 hb hl => ?_⟩
  have e0 : ((n.toNat : Nat) : Int) = n := by omega
  have cA := Lib.hid (app_u64.2 base w dst ds ((n.toNat : Nat) : Int) hown (by omega) (by omega) hb hl)
  rw [show beEnc 8 ((n.toNat : Nat) : Int) = beEnc 8 n by rw [e0]] at cA
  show Calls _ _ #[dst, .float .f64 n.toNat] _ _
  clear hown h0 h1 hb hl e0
  have hx : ∀ (b : Nat) (w : World), (callFunc 117 #[.float .f64 b]).run Tryz.prog w = .ok (.value (.int .u64 b)) w := fun b w => by kernel_rfl
  generalize n.toNat = nb at *
  go_enter Tryz.func75, Tryz.ntmps75
  go_wp2_with (go_at_call 116; refine cA.out.mono ?_; rintro e1 w1 ⟨v1, rfl, ho1, hw1⟩; have HO1 := Lib.hid ho1; have HW1 := Lib.hid hw1; clear ho1 hw1)
  go_ret
  exact ⟨_, rfl, HO1.out, HW1.out⟩
theorem app_f64C : AppC Tryz.prog 5 75 (.prim .f64) := AppN.c (by decide) app_f64
end Go.Proofs.YtcanhgcceagplaaGreatDoor.Kf
