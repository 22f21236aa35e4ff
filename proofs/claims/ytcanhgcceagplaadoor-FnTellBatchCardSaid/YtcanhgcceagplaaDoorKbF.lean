/- The reader's functions that read lengths, small numbers; whether it has failed. -/
import Derived.Test.YtcanhgcceagplaaDoorKbD
namespace Go.Proofs.YtcanhgcceagplaaDoor.Kf
set_option linter.unusedVariables false
set_option linter.unusedSimpArgs false
open Go Go.RowKit

theorem wrap_i64 (m : Nat) (h : m < 18446744073709551616) : wrap64 (m : Int) = Prim.i64.conv m := by
  simp only [Prim.conv, wrap64]
  split <;> omega
theorem rd_int64 : NumC Tryd.prog 39 .i64 := by
  refine ⟨plain_f' Tryd.func39 rfl rfl, fun D rb w nn bs bad h hl => ?_⟩
  have cI := Lib.hid (rd_u64.2 D rb w nn bs bad h hl)
  clear h hl
  go_enter Tryd.func39, Tryd.ntmps39
  go_wp2_with (go_at_call 48; refine cI.out.mono ?_; rintro e0 w1 ⟨n, rfl, h0, h1, ho, hR⟩; have HO := Lib.hid ho; have HC := Lib.hid hR; have H0 := Lib.hid h0; have H1 := Lib.hid h1; clear ho hR h0 h1)
  go_ret
  exact num64 H0.out H1.out HO.out HC.out
theorem rd_int8 : NumC Tryd.prog 41 .i8 := by
  refine ⟨plain_f' Tryd.func41 rfl rfl, fun D rb w nn bs bad h hl => ?_⟩
  obtain ⟨sv, e, hb, hs, hD, hbad⟩ := h
  have hB : RB rb w sv bad e := hb
  obtain ⟨c0, c1, f0, f1⟩ := hB.cells
  by_cases hlt : bs.length < 1
  · obtain ⟨A, c, rfl, hc, hnil⟩ := hs.len
    have HB := Lib.hid hB
    have HL := Lib.hid hlt
    have ht : decide ((bs.length : Int) < 1) = true := by simpa using (by omega : (bs.length : Int) < 1)
    clear hbad hnil hB hb hs hlt
    go_enter Tryd.func41, Tryd.ntmps41
    go_wp2
    go_ret
    exact NumQ.short (by decide) hD HB.out HL.out rfl
  · obtain ⟨rfl, o, c, rfl, hc, hcell⟩ := hs.ne (by omega)
    obtain rfl : bad = false := by cases bad; rfl; exact absurd (hbad rfl) (by decide)
    obtain ⟨x0, l, rfl⟩ : ∃ x0 l, bs = x0 :: l := by cases bs with | nil => simp at hlt | cons a l => exact ⟨a, l, rfl⟩
    have k0 : w.cell? ⟨D, o, none⟩ = some (.int .u8 x0.toNat) := hcell 0 x0 rfl
    obtain ⟨n, hn⟩ : ∃ n, n = (x0 :: l).length := ⟨_, rfl⟩
    rw [← hn] at hc hs hB c0
    have hn2 : 1 ≤ n := by rw [hn]; simp
    have HB := Lib.hid hB
    have HC := Lib.hid hcell
    have HN := Lib.hid hn
    have HCL := Lib.hid hc
    have ht : decide ((n : Int) < 1) = false := by simpa using (by omega : ¬ (n : Int) < 1)
    have q0 : 0 < n := hn2
    have q1 : (0 : Int) < n := by omega
    clear hbad hB hb hs hlt hcell hn hc
    by_cases hcap : c = 1
    all_goals (try subst hcap)
    all_goals
      go_enter Tryd.func41, Tryd.ntmps41
      go_wp2
      go_ret
      first
      | exact NumQ.num (p := .i8) (v := (.int .i8 (IntKind.i8.wrap (x0.toNat : Int)))) hD HB.out HN.out HCL.out HC.out (by simp [Prim.n]) (Below.refl _ _) (conv_i x0 l) (rng_i x0 l) (.inl rfl)
      | exact NumQ.num (p := .i8) (v := (.int .i8 (IntKind.i8.wrap (x0.toNat : Int)))) hD HB.out HN.out HCL.out HC.out (by simp [Prim.n]) (Below.refl _ _) (conv_i x0 l) (rng_i x0 l) (.inr ⟨rfl, rfl⟩)
end Go.Proofs.YtcanhgcceagplaaDoor.Kf
