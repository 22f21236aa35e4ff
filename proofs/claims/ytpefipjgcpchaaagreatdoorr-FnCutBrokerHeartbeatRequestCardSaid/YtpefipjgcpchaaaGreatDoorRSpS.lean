/- The reference: octets compared. -/
import Derived.Test.YtpefipjgcpchaaaGreatDoorRSpA
import Derived.Test.YtpefipjgcpchaaaGreatDoorRProg
import Derived.WalkMore
import Derived.LoopTactic
import Derived.Handy
import Derived.Laws.BitsLemmas
import Derived.Lib.Hide
import Derived.Deep.RegionHeld3
namespace Go.Proofs.YtpefipjgcpchaaaGreatDoorR.Kf
set_option linter.unusedVariables false
set_option linter.unusedSimpArgs false
open Go Go.RowKit

set_option maxRecDepth 100000 in
theorem sp_same (w : World) (B : Nat) (v u : Value) (s : List UInt8) (hB : B ≤ w.heap.size) (hv : Oc w B v s) (hu : Oc w B u s) (hl : s.length ≤ lim2) : Calls Tryz.prog 14 #[v, u] w fun e w' => e = .returned (.bool true) ∧ Only (fun _ => False) w w' := by
  obtain ⟨A1, c1, rfl, h1⟩ := hv.sl
  obtain ⟨A2, c2, rfl, h2⟩ := hu.sl
  have HB := Lib.hid hB
  have HV := Lib.hid hv
  have HU := Lib.hid hu
  clear hB hv hu
  unfold lim2 at hl
  go_enter Tryz.func14, Tryz.ntmps14
  go_wp2_with fail
  go_loopw [13] (fun i wr => ∃ k : Nat, k ≤ s.length ∧ i = .int .i64 k ∧ Only (fun _ => False) w wr) (fun i _ => s.length - (intOf i).toNat)
  case atStart => exact ⟨0, Nat.zero_le _, rfl, Only.refl _ _⟩
  case round =>
    obtain ⟨k, hk, rfl, honly⟩ := hrel
    have HW := Lib.hid honly
    clear honly
    by_cases hlt : k < s.length
    · have hb : s[k]? = some s[k] := List.getElem?_eq_getElem hlt
      rcases HV.out.keep (HW.out.kept0 HB.out) with ⟨_, h⟩ | ⟨a, c, e1, _, hc1⟩
      · rw [h] at hlt; exact absurd hlt (by simp)
      rcases HU.out.keep (HW.out.kept0 HB.out) with ⟨_, h⟩ | ⟨a', c', e2, _, hc2⟩
      · rw [h] at hlt; exact absurd hlt (by simp)
      injection e1 with e1 _ e1c
      injection e2 with e2 _ e2c
      subst e1; subst e2; subst e1c; subst e2c
      have f1 := (hc1 k _ hb).2
      have f2 := (hc2 k _ hb).2
      unfold u8v at f1 f2
      generalize (s[k].toNat : Int) = z at f1 f2
      have hlt' : (k : Int) < (s.length : Int) := by omega
      clear hc1 hc2 hb hk
      have hw64 : wrap64 ((k : Int) + 1) = (k : Int) + 1 := by unfold wrap64; omega
      have HS0 := Lib.hid (And.intro f1 f2)
      go_wp2_with fail
      go_region_held3 (fun w' => w'.cell? (a.add k) = some (.int .u8 z) ∧ w'.cell? (a'.add k) = some (.int .u8 z)) (exact HS0.out) (fail)
      go_wp2_with fail
      go_roundw
      case rel => exact ⟨k + 1, hlt, by go_num, HW.out.drew⟩
      case measure => simp [intOf]; omega
    · have hk2 : k = s.length := by omega
      subst hk2
      have hlt' : ¬ ((s.length : Int) < (s.length : Int)) := by omega
      go_wp2_with fail
      go_ret
      exact ⟨rfl, HW.out⟩
end Go.Proofs.YtpefipjgcpchaaaGreatDoorR.Kf
