/- The functions that write how many things a list has. -/
import Derived.Test.YtpefipjgcpchaaaGreatDoorRKbI
namespace Go.Proofs.YtpefipjgcpchaaaGreatDoorR.Kf
set_option linter.unusedVariables false
set_option linter.unusedSimpArgs false
open Go Go.RowKit

theorem uv1 {base : Nat} {w : World} {dst : Value} {ds : List UInt8} (n : Nat) (hown : Own 5 base w dst ds) (h : n ≤ 2147483646) (hb : base ≤ w.heap.size) (hl : ds.length + 10 ≤ lim2) :
    Calls Tryz.prog 43 #[dst, .int .u32 (1 + (n : Int))] w (AppP 5 base w (ds ++ uvEnc (n + 1))) := by
  have := app_uvarint.2 base w dst ds (n + 1) hown (by omega) hb hl
  have e : ((n + 1 : Nat) : Int) = 1 + (n : Int) := by omega
  rw [e] at this
  exact this

set_option maxRecDepth 100000 in
theorem len_plain : ALenC Tryz.prog 5 46 false false := by
  refine ⟨plain_g Tryz.func46 rfl rfl, fun base w dst ds n isNil hown hn hnl hb hl => ?_⟩
  obtain rfl : isNil = false := by cases isNil; rfl; exact absurd (hnl rfl) (by decide)
  show Calls Tryz.prog 46 #[dst, .int .i64 n] w (AppP 5 base w (ds ++ beEnc 4 (n : Int)))
  have cA := Lib.hid (app_i32.2 base w dst ds (n : Int) hown (by omega) (by omega) hb (by omega))
  clear hb hown hl
  go_enter Tryz.func46, Tryz.ntmps46
  go_wp2_with (go_at_call 40; refine cA.out.mono ?_; rintro e1 w1 ⟨v1, rfl, ho1, hw1⟩; have HO1 := Lib.hid ho1; have HW1 := Lib.hid hw1; clear ho1 hw1)
  go_ret
  exact ⟨_, rfl, HO1.out, HW1.out⟩
set_option maxRecDepth 100000 in
theorem len_compact : ALenC Tryz.prog 5 45 true false := by
  refine ⟨plain_g Tryz.func45 rfl rfl, fun base w dst ds n isNil hown hn hnl hb hl => ?_⟩
  obtain rfl : isNil = false := by cases isNil; rfl; exact absurd (hnl rfl) (by decide)
  show Calls Tryz.prog 45 #[dst, .int .i64 n] w (AppP 5 base w (ds ++ uvEnc (n + 1)))
  have cA := Lib.hid (uv1 n hown hn hb hl)
  clear hb hown hl
  go_enter Tryz.func45, Tryz.ntmps45
  go_wp2_with (go_at_call 43; refine cA.out.mono ?_; rintro e1 w1 ⟨v1, rfl, ho1, hw1⟩; have HO1 := Lib.hid ho1; have HW1 := Lib.hid hw1; clear ho1 hw1)
  go_ret
  exact ⟨_, rfl, HO1.out, HW1.out⟩
end Go.Proofs.YtpefipjgcpchaaaGreatDoorR.Kf
