/- The functions that write how many things a list has. -/
import Derived.Test.YtfimokbgggimmaaDoorKbI
namespace Go.Proofs.YtfimokbgggimmaaDoor.Kf
set_option linter.unusedVariables false
set_option linter.unusedSimpArgs false
open Go Go.RowKit


set_option maxRecDepth 100000 in
theorem len_plain : ALenC Tryd.prog 5 60 false false := by
  refine ⟨plain_g Tryd.func60 rfl rfl, fun base w dst ds n isNil hown hn hnl hb hl => ?_⟩
  obtain rfl : isNil = false := by cases isNil; rfl; exact absurd (hnl rfl) (by decide)
  show Calls Tryd.prog 60 #[dst, .int .i64 n] w (AppP 5 base w (ds ++ beEnc 4 (n : Int)))
  have cA := Lib.hid (app_i32.2 base w dst ds (n : Int) hown (by omega) (by omega) hb (by omega))
  clear hb hown hl
  go_enter Tryd.func60, Tryd.ntmps60
  go_wp2_with (go_at_call 61; refine cA.out.mono ?_; rintro e1 w1 ⟨v1, rfl, ho1, hw1⟩; have HO1 := Lib.hid ho1; have HW1 := Lib.hid hw1; clear ho1 hw1)
  go_ret
  exact ⟨_, rfl, HO1.out, HW1.out⟩
end Go.Proofs.YtfimokbgggimmaaDoor.Kf
