/- The reader's functions that read lengths, small numbers; whether it has failed. -/
import Derived.Test.YtjphodjbflgbaaaDoorKbD
namespace Go.Proofs.YtjphodjbflgbaaaDoor.Kf
set_option linter.unusedVariables false
set_option linter.unusedSimpArgs false
open Go Go.RowKit

set_option maxRecDepth 100000 in
theorem rd_alen : LenC Tryd.prog 89 false := by
  refine ⟨plain_f' Tryd.func89 rfl rfl, fun D rb w nn bs bad h hl => ?_⟩
  show Calls _ _ _ _ (LenP D rb false w bs bad)
  have cI := Lib.hid (rd_int32.2 D rb w nn bs bad h hl)
  have HL := Lib.hid hl
  clear h hl
  go_enter Tryd.func89, Tryd.ntmps89
  go_wp2_with (go_at_call 93; refine cI.out.mono ?_; intro e0 w1 hu; obtain ⟨n, nn1, bs1, bad1, rfl, h0, h1, ho, hr1, hl1, hR⟩ := NumQ.uni (.inr rfl) hu; clear hu; have HR1 := Lib.hid hr1; have HL1 := Lib.hid hl1; have HC := Lib.hid hR; have HO := Lib.hid ho; obtain ⟨sv1, e1, hb1, hs1, hD1, hbd1⟩ := hr1; obtain ⟨A1, cc1, rfl, hcc1, hnil1⟩ := hs1.len; obtain ⟨d0, d1, g0, g1⟩ := RB.cells hb1; have HB1 := Lib.hid (show RB rb w1 _ bad1 e1 from hb1); clear hb1 hs1 hcc1 hnil1 hbd1; clear hl1 hR ho; simp only [primV])
  all_goals (first
    | (go_ret; exact lenP_short (r := 0) hD1 HB1.out HO.out HC.out rfl (by simp only [lenN, Bool.false_eq_true, if_false] at *; omega))
    | (go_ret; exact lenP_ok HR1.out HO.out HL1.out HC.out rfl (by simp only [lenN, Bool.false_eq_true, if_false] at *; omega)))
set_option maxRecDepth 100000 in
theorem rd_calen : LenC Tryd.prog 88 true := by
  refine ⟨plain_f' Tryd.func88 rfl rfl, fun D rb w nn bs bad h hl => ?_⟩
  show Calls _ _ _ _ (LenP D rb true w bs bad)
  have cI := Lib.hid (rd_uvarint.2 D rb w nn bs bad h hl)
  have HL := Lib.hid hl
  clear h hl
  go_enter Tryd.func88, Tryd.ntmps88
  go_wp2_with (go_at_call 107; refine cI.out.mono ?_; intro e0 w1 hu; obtain ⟨x, nn1, bs1, bad1, rfl, hx, ho, hr1, hl1, hR⟩ := UvrP.uni (p := .i32) hu; clear hu; have HR1 := Lib.hid hr1; have HL1 := Lib.hid hl1; have HC := Lib.hid hR; have HO := Lib.hid ho; obtain ⟨sv1, e1, hb1, hs1, hD1, hbd1⟩ := hr1; obtain ⟨A1, cc1, rfl, hcc1, hnil1⟩ := hs1.len; obtain ⟨d0, d1, g0, g1⟩ := RB.cells hb1; have HB1 := Lib.hid (show RB rb w1 _ bad1 e1 from hb1); clear hb1 hs1 hcc1 hnil1 hbd1; clear hl1 hR ho)
  all_goals (first
    | (go_ret; exact lenP_short (r := 0) hD1 HB1.out HO.out HC.out rfl (by simp only [lenN, wrap32, wrap64, if_true] at *; (first | omega | (split <;> omega))))
    | (go_ret; exact lenP_ok HR1.out HO.out HL1.out HC.out (by simp only [lenN, wrap32, wrap64, if_true] at *; (first | omega | (split <;> omega))) (by simp only [lenN, wrap32, wrap64, if_true] at *; (first | omega | (split <;> omega)))))
theorem rd_ok : OkC Tryd.prog 90 := by
  refine ⟨plain_f' Tryd.func90 rfl rfl, fun D rb w nn bs bad h => ?_⟩
  obtain ⟨sv, e, hb, hs, hD, hbad⟩ := h
  obtain ⟨c0, c1, f0, f1⟩ := RB.cells hb
  clear hb hs hbad
  go_enter Tryd.func90, Tryd.ntmps90
  go_wp2
  go_ret
  exact ⟨_, rfl, rfl, Only.refl _ _⟩
theorem wrap_i64 (m : Nat) (h : m < 18446744073709551616) : wrap64 (m : Int) = Prim.i64.conv m := by
  simp only [Prim.conv, wrap64]
  split <;> omega
theorem rd_int64 : NumC Tryd.prog 94 .i64 := by
  refine ⟨plain_f' Tryd.func94 rfl rfl, fun D rb w nn bs bad h hl => ?_⟩
  have cI := Lib.hid (rd_u64.2 D rb w nn bs bad h hl)
  clear h hl
  go_enter Tryd.func94, Tryd.ntmps94
  go_wp2_with (go_at_call 114; refine cI.out.mono ?_; rintro e0 w1 ⟨n, rfl, h0, h1, ho, hR⟩; have HO := Lib.hid ho; have HC := Lib.hid hR; have H0 := Lib.hid h0; have H1 := Lib.hid h1; clear ho hR h0 h1)
  go_ret
  exact num64 H0.out H1.out HO.out HC.out
end Go.Proofs.YtjphodjbflgbaaaDoor.Kf
