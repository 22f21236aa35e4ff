/- The functions that write how many things a list has. -/
import Derived.Test.YtcanhgcceagplaaGreatDoorKbI
namespace Go.Proofs.YtcanhgcceagplaaGreatDoor.Kf
set_option linter.unusedVariables false
set_option linter.unusedSimpArgs false
open Go Go.RowKit

theorem uv1 {base : Nat} {w : World} {dst : Value} {ds : List UInt8} (n : Nat) (hown : Own 5 base w dst ds) (h : n ≤ 2147483646) (hb : base ≤ w.heap.size) (hl : ds.length + 10 ≤ lim2) :
    Calls Tryz.prog 72 #[dst, .int .u32 (1 + (n : Int))] w (AppP 5 base w (ds ++ uvEnc (n + 1))) := by
  have := app_uvarint.2 base w dst ds (n + 1) hown (by omega) hb hl
  have e : ((n + 1 : Nat) : Int) = 1 + (n : Int) := by omega
  rw [e] at this
  exact this

set_option maxRecDepth 100000 in
theorem len_plain : ALenC Tryz.prog 5 69 false false := by
  refine ⟨plain_g Tryz.func69 rfl rfl, fun base w dst ds n isNil hown hn hnl hb hl => ?_⟩
  obtain rfl : isNil = false := by cases isNil; rfl; exact absurd (hnl rfl) (by decide)
  show Calls Tryz.prog 69 #[dst, .int .i64 n] w (AppP 5 base w (ds ++ beEnc 4 (n : Int)))
  have cA := Lib.hid (app_i32.2 base w dst ds (n : Int) hown (by omega) (by omega) hb (by omega))
  clear hb hown hl
  go_enter Tryz.func69, Tryz.ntmps69
  go_wp2_with (go_at_call 62; refine cA.out.mono ?_; rintro e1 w1 ⟨v1, rfl, ho1, hw1⟩; have HO1 := Lib.hid ho1; have HW1 := Lib.hid hw1; clear ho1 hw1)
  go_ret
  exact ⟨_, rfl, HO1.out, HW1.out⟩
set_option maxRecDepth 100000 in
theorem len_compact : ALenC Tryz.prog 5 68 true false := by
  refine ⟨plain_g Tryz.func68 rfl rfl, fun base w dst ds n isNil hown hn hnl hb hl => ?_⟩
  obtain rfl : isNil = false := by cases isNil; rfl; exact absurd (hnl rfl) (by decide)
  show Calls Tryz.prog 68 #[dst, .int .i64 n] w (AppP 5 base w (ds ++ uvEnc (n + 1)))
  have cA := Lib.hid (uv1 n hown hn hb hl)
  clear hb hown hl
  go_enter Tryz.func68, Tryz.ntmps68
  go_wp2_with (go_at_call 72; refine cA.out.mono ?_; rintro e1 w1 ⟨v1, rfl, ho1, hw1⟩; have HO1 := Lib.hid ho1; have HW1 := Lib.hid hw1; clear ho1 hw1)
  go_ret
  exact ⟨_, rfl, HO1.out, HW1.out⟩
set_option maxRecDepth 100000 in
theorem len_null : ALenC Tryz.prog 5 67 false true := by
  refine ⟨plain_g Tryz.func67 rfl rfl, fun base w dst ds n isNil hown hn hnl hb hl => ?_⟩
  cases isNil
  · skip
    show Calls Tryz.prog 67 #[dst, .int .i64 n, .bool false] w (AppP 5 base w (ds ++ beEnc 4 (n : Int)))
    have cA := Lib.hid (app_i32.2 base w dst ds (n : Int) hown (by omega) (by omega) hb (by omega))
    clear hb hown hl
    go_enter Tryz.func67, Tryz.ntmps67
    go_wp2_with (go_at_call 62; refine cA.out.mono ?_; rintro e1 w1 ⟨v1, rfl, ho1, hw1⟩; have HO1 := Lib.hid ho1; have HW1 := Lib.hid hw1; clear ho1 hw1)
    go_ret
    exact ⟨_, rfl, HO1.out, HW1.out⟩
  · skip
    show Calls Tryz.prog 67 #[dst, .int .i64 n, .bool true] w (AppP 5 base w (ds ++ beEnc 4 (-1)))
    have cA := Lib.hid (app_i32.2 base w dst ds (-1) hown (by omega) (by omega) hb (by omega))
    clear hb hown hl
    go_enter Tryz.func67, Tryz.ntmps67
    go_wp2_with (go_at_call 62; refine cA.out.mono ?_; rintro e1 w1 ⟨v1, rfl, ho1, hw1⟩; have HO1 := Lib.hid ho1; have HW1 := Lib.hid hw1; clear ho1 hw1)
    go_ret
    exact ⟨_, rfl, HO1.out, HW1.out⟩
set_option maxRecDepth 100000 in
theorem len_cnull : ALenC Tryz.prog 5 66 true true := by
  refine ⟨plain_g Tryz.func66 rfl rfl, fun base w dst ds n isNil hown hn hnl hb hl => ?_⟩
  cases isNil
  · skip
    show Calls Tryz.prog 66 #[dst, .int .i64 n, .bool false] w (AppP 5 base w (ds ++ uvEnc (n + 1)))
    have cA := Lib.hid (uv1 n hown hn hb hl)
    clear hb hown hl
    go_enter Tryz.func66, Tryz.ntmps66
    go_wp2_with (go_at_call 72; refine cA.out.mono ?_; rintro e1 w1 ⟨v1, rfl, ho1, hw1⟩; have HO1 := Lib.hid ho1; have HW1 := Lib.hid hw1; clear ho1 hw1)
    go_ret
    exact ⟨_, rfl, HO1.out, HW1.out⟩
  · skip
    show Calls Tryz.prog 66 #[dst, .int .i64 n, .bool true] w (AppP 5 base w (ds ++ [0]))
    have cA := Lib.hid (app_uvarint.2 base w dst ds 0 hown (by omega) hb hl)
    clear hb hown hl
    go_enter Tryz.func66, Tryz.ntmps66
    go_wp2_with (go_at_call 72; refine cA.out.mono ?_; rintro e1 w1 ⟨v1, rfl, ho1, hw1⟩; have HO1 := Lib.hid ho1; have HW1 := Lib.hid hw1; clear ho1 hw1)
    go_ret
    exact ⟨_, rfl, HO1.out, HW1.out⟩
end Go.Proofs.YtcanhgcceagplaaGreatDoor.Kf
