/- The reader's functions that read lengths, small numbers; whether it has failed. -/
import Derived.Test.YtpefipjgcpchaaaGreatDoorRKbD
namespace Go.Proofs.YtpefipjgcpchaaaGreatDoorR.Kf
set_option linter.unusedVariables false
set_option linter.unusedSimpArgs false
open Go Go.RowKit

set_option maxRecDepth 100000 in
theorem rd_alen : LenC Tryz.prog 71 false := by
  refine ⟨plain_f' Tryz.func71 rfl rfl, fun D rb w nn bs bad h hl => ?_⟩
  show Calls _ _ _ _ (LenP D rb false w bs bad)
  have cI := Lib.hid (rd_int32.2 D rb w nn bs bad h hl)
  have HL := Lib.hid hl
  clear h hl
  go_enter Tryz.func71, Tryz.ntmps71
  go_wp2_with (go_at_call 64; refine cI.out.mono ?_; intro e0 w1 hu; obtain ⟨n, nn1, bs1, bad1, rfl, h0, h1, ho, hr1, hl1, hR⟩ := NumQ.uni (.inr rfl) hu; clear hu; have HR1 := Lib.hid hr1; have HL1 := Lib.hid hl1; have HC := Lib.hid hR; have HO := Lib.hid ho; obtain ⟨sv1, e1, hb1, hs1, hD1, hbd1⟩ := hr1; obtain ⟨A1, cc1, rfl, hcc1, hnil1⟩ := hs1.len; obtain ⟨d0, d1, g0, g1⟩ := RB.cells hb1; have HB1 := Lib.hid (show RB rb w1 _ bad1 e1 from hb1); clear hb1 hs1 hcc1 hnil1 hbd1; clear hl1 hR ho; simp only [primV])
  all_goals (first
    | (go_ret; exact lenP_short (r := 0) hD1 HB1.out HO.out HC.out rfl (by simp only [lenN, Bool.false_eq_true, if_false] at *; omega))
    | (go_ret; exact lenP_ok HR1.out HO.out HL1.out HC.out rfl (by simp only [lenN, Bool.false_eq_true, if_false] at *; omega)))
set_option maxRecDepth 100000 in
theorem rd_calen : LenC Tryz.prog 70 true := by
  refine ⟨plain_f' Tryz.func70 rfl rfl, fun D rb w nn bs bad h hl => ?_⟩
  show Calls _ _ _ _ (LenP D rb true w bs bad)
  have cI := Lib.hid (rd_uvarint.2 D rb w nn bs bad h hl)
  have HL := Lib.hid hl
  clear h hl
  go_enter Tryz.func70, Tryz.ntmps70
  go_wp2_with (go_at_call 67; refine cI.out.mono ?_; intro e0 w1 hu; obtain ⟨x, nn1, bs1, bad1, rfl, hx, ho, hr1, hl1, hR⟩ := UvrP.uni (p := .i32) hu; clear hu; have HR1 := Lib.hid hr1; have HL1 := Lib.hid hl1; have HC := Lib.hid hR; have HO := Lib.hid ho; obtain ⟨sv1, e1, hb1, hs1, hD1, hbd1⟩ := hr1; obtain ⟨A1, cc1, rfl, hcc1, hnil1⟩ := hs1.len; obtain ⟨d0, d1, g0, g1⟩ := RB.cells hb1; have HB1 := Lib.hid (show RB rb w1 _ bad1 e1 from hb1); clear hb1 hs1 hcc1 hnil1 hbd1; clear hl1 hR ho)
  all_goals (first
    | (go_ret; exact lenP_short (r := 0) hD1 HB1.out HO.out HC.out rfl (by simp only [lenN, wrap32, wrap64, if_true] at *; (first | omega | (split <;> omega))))
    | (go_ret; exact lenP_ok HR1.out HO.out HL1.out HC.out (by simp only [lenN, wrap32, wrap64, if_true] at *; (first | omega | (split <;> omega))) (by simp only [lenN, wrap32, wrap64, if_true] at *; (first | omega | (split <;> omega)))))
theorem rd_ok : OkC Tryz.prog 72 := by
  refine ⟨plain_f' Tryz.func72 rfl rfl, fun D rb w nn bs bad h => ?_⟩
  obtain ⟨sv, e, hb, hs, hD, hbad⟩ := h
  obtain ⟨c0, c1, f0, f1⟩ := RB.cells hb
  clear hb hs hbad
  go_enter Tryz.func72, Tryz.ntmps72
  go_wp2
  go_ret
  exact ⟨_, rfl, rfl, Only.refl _ _⟩
theorem wrap_i64 (m : Nat) (h : m < 18446744073709551616) : wrap64 (m : Int) = Prim.i64.conv m := by
  simp only [Prim.conv, wrap64]
  split <;> omega
theorem rd_int64 : NumC Tryz.prog 65 .i64 := by
  refine ⟨plain_f' Tryz.func65 rfl rfl, fun D rb w nn bs bad h hl => ?_⟩
  have cI := Lib.hid (rd_u64.2 D rb w nn bs bad h hl)
  clear h hl
  go_enter Tryz.func65, Tryz.ntmps65
  go_wp2_with (go_at_call 91; refine cI.out.mono ?_; rintro e0 w1 ⟨n, rfl, h0, h1, ho, hR⟩; have HO := Lib.hid ho; have HC := Lib.hid hR; have H0 := Lib.hid h0; have H1 := Lib.hid h1; clear ho hR h0 h1)
  go_ret
  exact num64 H0.out H1.out HO.out HC.out
theorem rd_bool : NumC Tryz.prog 66 .bool := by
  refine ⟨plain_f' Tryz.func66 rfl rfl, fun D rb w nn bs bad h hl => ?_⟩
  obtain ⟨sv, e, hb, hs, hD, hbad⟩ := h
  have hB : RB rb w sv bad e := hb
  obtain ⟨c0, c1, f0, f1⟩ := hB.cells
  by_cases hlt : bs.length < 1
  · obtain ⟨A, c, rfl, hc, hnil⟩ := hs.len
    have HB := Lib.hid hB
    have HL := Lib.hid hlt
    have ht : decide ((bs.length : Int) < 1) = true := by simpa using (by omega : (bs.length : Int) < 1)
    clear hbad hnil hB hb hs hlt
    go_enter Tryz.func66, Tryz.ntmps66
    go_wp2
    go_ret
    exact NumQ.short (by decide) hD HB.out HL.out rfl
  · obtain ⟨rfl, o, c, rfl, hc, hcell⟩ := hs.ne (by omega)
    obtain rfl : bad = false := by cases bad; rfl; exact absurd (hbad rfl) (by decide)
    obtain ⟨x0, l, rfl⟩ : ∃ x0 l, bs = x0 :: l := by cases bs with | nil => simp at hlt | cons a l => exact ⟨a, l, rfl⟩
    have k0 : w.cell? ⟨D, o, none⟩ = some (.int .u8 x0.toNat) := hcell 0 x0 rfl
    obtain ⟨n, hn⟩ : ∃ n, n = (x0 :: l).length := ⟨_, rfl⟩
    rw [← hn] at hc hs hB c0
    have hn2 : 1 ≤ n := by rw [hn]; simp
    have HB := Lib.hid hB
    have HC := Lib.hid hcell
    have HN := Lib.hid hn
    have HCL := Lib.hid hc
    have ht : decide ((n : Int) < 1) = false := by simpa using (by omega : ¬ (n : Int) < 1)
    have q0 : 0 < n := hn2
    have q1 : (0 : Int) < n := by omega
    clear hbad hB hb hs hlt hcell hn hc
    by_cases hcap : c = 1
    all_goals (try subst hcap)
    all_goals
      go_enter Tryz.func66, Tryz.ntmps66
      go_wp2
      go_ret
      first
      | exact NumQ.num (p := .bool) (v := (.bool ((x0.toNat : Int) != 0))) hD HB.out HN.out HCL.out HC.out (by simp [Prim.n]) (Below.refl _ _) (conv_b x0 l) (rng_b x0 l) (.inl rfl)
      | exact NumQ.num (p := .bool) (v := (.bool ((x0.toNat : Int) != 0))) hD HB.out HN.out HCL.out HC.out (by simp [Prim.n]) (Below.refl _ _) (conv_b x0 l) (rng_b x0 l) (.inr ⟨rfl, rfl⟩)
end Go.Proofs.YtpefipjgcpchaaaGreatDoorR.Kf
