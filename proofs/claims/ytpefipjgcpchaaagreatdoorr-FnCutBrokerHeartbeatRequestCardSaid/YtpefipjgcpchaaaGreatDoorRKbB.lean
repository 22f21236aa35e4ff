/- The reader's functions that read numbers. -/
import Derived.Test.YtpefipjgcpchaaaGreatDoorRKbA
import Derived.Test.YtpefipjgcpchaaaGreatDoorRProg
import Derived.Test.YtpefipjgcpchaaaGreatDoorRShelf
import Derived.Deep.RegionWith
import Derived.Lib.Hide
namespace Go.Proofs.YtpefipjgcpchaaaGreatDoorR.Kf
set_option linter.unusedVariables false
set_option linter.unusedSimpArgs false
open Go Go.RowKit

theorem plain_f {f : Nat} {fn : Func} (h : Tryz.prog.funcs[f]? = some fn) (hb : fn.body.isNone = false) (hn : (fn.name == "runtime.NumGoroutine") = false) : Plain Tryz.prog f := ⟨fn, h, hb, hn⟩

theorem atleast2 {bs : List UInt8} (h : ¬ bs.length < 2) : ∃ x0 x1 l, bs = x0 :: x1 :: l := by
  match bs, h with
  | x0 :: x1 :: l, _ => exact ⟨_, _, _, rfl⟩
  | [_], h => exact absurd (by simp) h
  | [], h => exact absurd (by simp) h

theorem atleast4 {bs : List UInt8} (h : ¬ bs.length < 4) : ∃ x0 x1 x2 x3 l, bs = x0 :: x1 :: x2 :: x3 :: l := by
  match bs, h with
  | x0 :: x1 :: x2 :: x3 :: l, _ => exact ⟨_, _, _, _, _, rfl⟩
  | [_, _, _], h => exact absurd (by simp) h
  | [_, _], h => exact absurd (by simp) h
  | [_], h => exact absurd (by simp) h
  | [], h => exact absurd (by simp) h

theorem atleast8 {bs : List UInt8} (h : ¬ bs.length < 8) : ∃ x0 x1 x2 x3 x4 x5 x6 x7 l, bs = x0 :: x1 :: x2 :: x3 :: x4 :: x5 :: x6 :: x7 :: l := by
  match bs, h with
  | x0 :: x1 :: x2 :: x3 :: x4 :: x5 :: x6 :: x7 :: l, _ => exact ⟨_, _, _, _, _, _, _, _, _, rfl⟩
  | [_, _, _, _, _, _, _], h => exact absurd (by simp) h
  | [_, _, _, _, _, _], h => exact absurd (by simp) h
  | [_, _, _, _, _], h => exact absurd (by simp) h
  | [_, _, _, _], h => exact absurd (by simp) h
  | [_, _, _], h => exact absurd (by simp) h
  | [_, _], h => exact absurd (by simp) h
  | [_], h => exact absurd (by simp) h
  | [], h => exact absurd (by simp) h

theorem wrap_i16 (m : Nat) (h : m < 65536) : IntKind.i16.wrap (m : Int) = Prim.i16.conv m := by
  have e : IntKind.i16.wrap (m : Int) = if 32768 ≤ (m : Int) % 65536 then (m : Int) % 65536 - 65536 else (m : Int) % 65536 := by
    simp [IntKind.wrap, IntKind.bits, IntKind.signed]
  rw [e]
  simp only [Prim.conv]
  split <;> split <;> omega
theorem wrap_i32 (m : Nat) (h : m < 4294967296) : wrap32 (m : Int) = Prim.i32.conv m := by
  simp only [Prim.conv, wrap32]
  split <;> omega
theorem conv_rng (p : Prim) (hp : p ≠ .uuid ∧ p ≠ .bool) (l : List UInt8) (hl : p.n ≤ l.length) : p.lo ≤ p.conv (beDec (l.take p.n)) ∧ p.conv (beDec (l.take p.n)) < p.hi := by
  have h := beDec_lt (l.take p.n)
  rw [List.length_take, Nat.min_eq_left hl] at h
  generalize beDec (l.take p.n) = m at h
  cases p <;> simp only [Prim.n, Prim.lo, Prim.hi, Prim.conv] at * <;> first | exact absurd rfl hp.1 | exact absurd rfl hp.2 | skip
  all_goals (try split) <;> omega

theorem rd_int16 : NumC Tryz.prog 80 .i16 := by
  refine ⟨plain_f Tryz.func80 rfl rfl, fun D rb w nn bs bad h hl => ?_⟩
  obtain ⟨sv, e, hb, hs, hD, hbad⟩ := h
  have hB : RB rb w sv bad e := hb
  obtain ⟨c0, c1, f0, f1⟩ := hB.cells
  by_cases hlt : bs.length < 2
  · obtain ⟨A, c, rfl, hc, hnil⟩ := hs.len
    have HB := Lib.hid hB
    have HL := Lib.hid hlt
    have ht : decide ((bs.length : Int) < 2) = true := by simpa using (by omega : (bs.length : Int) < 2)
    clear hbad hnil hB hb hs hlt
    go_enter Tryz.func80, Tryz.ntmps80
    go_wp2
    go_ret
    exact NumQ.short (by decide) hD HB.out HL.out rfl
  · obtain ⟨rfl, o, c, rfl, hc, hcell⟩ := hs.ne (by omega)
    obtain rfl : bad = false := by cases bad; rfl; exact absurd (hbad rfl) (by decide)
    obtain ⟨x0, x1, l, rfl⟩ : ∃ x0 x1 l, bs = x0 :: x1 :: l := atleast2 hlt
    have k0 : w.cell? ⟨D, o, none⟩ = some (.int .u8 x0.toNat) := hcell 0 x0 rfl
    have k1 : w.cell? ⟨D, o + 1, none⟩ = some (.int .u8 x1.toNat) := hcell 1 x1 rfl
    obtain ⟨n, hn⟩ : ∃ n, n = (x0 :: x1 :: l).length := ⟨_, rfl⟩
    rw [← hn] at hc hs hB c0
    have hn2 : 2 ≤ n := by rw [hn]; simp
    have cU : ∀ wx, Below w.heap.size w wx → Calls Tryz.prog 96 #[.agg #[], .slice (some ⟨D, o, none⟩) n c] wx fun e w' => e = .returned (.int .u16 (Lib.beNat [x0, x1])) ∧ Below wx.heap.size wx w' := fun wx hx =>
      Tryz.binary_BE_Uint16 D o n c x0 x1 wx hn2 ((hx.cell (p := ⟨D, o, none⟩) (Nat.lt_trans hD hB.lt)).trans k0) ((hx.cell (p := ⟨D, o + 1, none⟩) (Nat.lt_trans hD hB.lt)).trans k1)
    have hv : Value.int .i16 (IntKind.i16.wrap (Lib.beNat [x0, x1])) = primV .i16 (Prim.conv .i16 (beDec ((x0 :: x1 :: l).take (Prim.n .i16)))) := by
      show _ = primV .i16 (Prim.conv .i16 (beDec [x0, x1]))
      rw [beNat_dec, wrap_i16 _ (by have := beDec_lt [x0, x1]; simpa using this)]; rfl
    generalize Lib.beNat [x0, x1] = V at cU hv
    have HV := Lib.hid hv
    have HB := Lib.hid hB
    have HC := Lib.hid hcell
    have HN := Lib.hid hn
    have HCL := Lib.hid hc
    have ht : decide ((n : Int) < 2) = false := by simpa using (by omega : ¬ (n : Int) < 2)
    clear hbad hB hb hs hlt hcell k0 k1 hn hc hv
    by_cases hcap : c = 2
    all_goals (try subst hcap)
    all_goals
      go_enter Tryz.func80, Tryz.ntmps80
      go_wp2_with fail
      go_region_with (go_at_call 96; refine (cU _ ?_).mono ?_; (exact ⟨rfl, rfl, rfl, Nat.le_refl _, fun _ _ => rfl⟩); rintro e w1 ⟨rfl, hb0⟩; have hb1 : Below w.heap.size w w1 := ⟨hb0.os, hb0.tape, hb0.output, hb0.size, hb0.block⟩; obtain ⟨d0, d1, g0, g1⟩ := (HB.out.below hb1).cells)
      all_goals
        go_wp2
        go_ret
        first
        | exact NumQ.num (p := .i16) (v := .int .i16 (IntKind.i16.wrap V)) hD HB.out HN.out HCL.out HC.out (by simp [Prim.n]) hb1 HV.out (conv_rng _ (by decide) _ (by simp [Prim.n])) (.inl rfl)
        | exact NumQ.num (p := .i16) (v := .int .i16 (IntKind.i16.wrap V)) hD HB.out HN.out HCL.out HC.out (by simp [Prim.n]) hb1 HV.out (conv_rng _ (by decide) _ (by simp [Prim.n])) (.inr ⟨rfl, rfl⟩)

theorem rd_int32 : NumC Tryz.prog 64 .i32 := by
  refine ⟨plain_f Tryz.func64 rfl rfl, fun D rb w nn bs bad h hl => ?_⟩
  obtain ⟨sv, e, hb, hs, hD, hbad⟩ := h
  have hB : RB rb w sv bad e := hb
  obtain ⟨c0, c1, f0, f1⟩ := hB.cells
  by_cases hlt : bs.length < 4
  · obtain ⟨A, c, rfl, hc, hnil⟩ := hs.len
    have HB := Lib.hid hB
    have HL := Lib.hid hlt
    have ht : decide ((bs.length : Int) < 4) = true := by simpa using (by omega : (bs.length : Int) < 4)
    clear hbad hnil hB hb hs hlt
    go_enter Tryz.func64, Tryz.ntmps64
    go_wp2
    go_ret
    exact NumQ.short (by decide) hD HB.out HL.out rfl
  · obtain ⟨rfl, o, c, rfl, hc, hcell⟩ := hs.ne (by omega)
    obtain rfl : bad = false := by cases bad; rfl; exact absurd (hbad rfl) (by decide)
    obtain ⟨x0, x1, x2, x3, l, rfl⟩ : ∃ x0 x1 x2 x3 l, bs = x0 :: x1 :: x2 :: x3 :: l := atleast4 hlt
    have k0 : w.cell? ⟨D, o, none⟩ = some (.int .u8 x0.toNat) := hcell 0 x0 rfl
    have k1 : w.cell? ⟨D, o + 1, none⟩ = some (.int .u8 x1.toNat) := hcell 1 x1 rfl
    have k2 : w.cell? ⟨D, o + 2, none⟩ = some (.int .u8 x2.toNat) := hcell 2 x2 rfl
    have k3 : w.cell? ⟨D, o + 3, none⟩ = some (.int .u8 x3.toNat) := hcell 3 x3 rfl
    obtain ⟨n, hn⟩ : ∃ n, n = (x0 :: x1 :: x2 :: x3 :: l).length := ⟨_, rfl⟩
    rw [← hn] at hc hs hB c0
    have hn2 : 4 ≤ n := by rw [hn]; simp
    have cU : ∀ wx, Below w.heap.size w wx → Calls Tryz.prog 90 #[.agg #[], .slice (some ⟨D, o, none⟩) n c] wx fun e w' => e = .returned (.int .u32 (Lib.beNat [x0, x1, x2, x3])) ∧ Below wx.heap.size wx w' := fun wx hx =>
      Tryz.binary_BE_Uint32 D o n c x0 x1 x2 x3 wx hn2 ((hx.cell (p := ⟨D, o, none⟩) (Nat.lt_trans hD hB.lt)).trans k0) ((hx.cell (p := ⟨D, o + 1, none⟩) (Nat.lt_trans hD hB.lt)).trans k1) ((hx.cell (p := ⟨D, o + 2, none⟩) (Nat.lt_trans hD hB.lt)).trans k2) ((hx.cell (p := ⟨D, o + 3, none⟩) (Nat.lt_trans hD hB.lt)).trans k3)
    have hv : Value.int .i32 (wrap32 (Lib.beNat [x0, x1, x2, x3])) = primV .i32 (Prim.conv .i32 (beDec ((x0 :: x1 :: x2 :: x3 :: l).take (Prim.n .i32)))) := by
      show _ = primV .i32 (Prim.conv .i32 (beDec [x0, x1, x2, x3]))
      rw [beNat_dec, wrap_i32 _ (by have := beDec_lt [x0, x1, x2, x3]; simpa using this)]; rfl
    generalize Lib.beNat [x0, x1, x2, x3] = V at cU hv
    have HV := Lib.hid hv
    have HB := Lib.hid hB
    have HC := Lib.hid hcell
    have HN := Lib.hid hn
    have HCL := Lib.hid hc
    have ht : decide ((n : Int) < 4) = false := by simpa using (by omega : ¬ (n : Int) < 4)
    clear hbad hB hb hs hlt hcell k0 k1 k2 k3 hn hc hv
    by_cases hcap : c = 4
    all_goals (try subst hcap)
    all_goals
      go_enter Tryz.func64, Tryz.ntmps64
      go_wp2_with fail
      go_region_with (go_at_call 90; refine (cU _ ?_).mono ?_; (exact ⟨rfl, rfl, rfl, Nat.le_refl _, fun _ _ => rfl⟩); rintro e w1 ⟨rfl, hb0⟩; have hb1 : Below w.heap.size w w1 := ⟨hb0.os, hb0.tape, hb0.output, hb0.size, hb0.block⟩; obtain ⟨d0, d1, g0, g1⟩ := (HB.out.below hb1).cells)
      all_goals
        go_wp2
        go_ret
        first
        | exact NumQ.num (p := .i32) (v := .int .i32 (wrap32 V)) hD HB.out HN.out HCL.out HC.out (by simp [Prim.n]) hb1 HV.out (conv_rng _ (by decide) _ (by simp [Prim.n])) (.inl rfl)
        | exact NumQ.num (p := .i32) (v := .int .i32 (wrap32 V)) hD HB.out HN.out HCL.out HC.out (by simp [Prim.n]) hb1 HV.out (conv_rng _ (by decide) _ (by simp [Prim.n])) (.inr ⟨rfl, rfl⟩)

theorem rd_uint16 : NumC Tryz.prog 89 .u16 := by
  refine ⟨plain_f Tryz.func89 rfl rfl, fun D rb w nn bs bad h hl => ?_⟩
  obtain ⟨sv, e, hb, hs, hD, hbad⟩ := h
  have hB : RB rb w sv bad e := hb
  obtain ⟨c0, c1, f0, f1⟩ := hB.cells
  by_cases hlt : bs.length < 2
  · obtain ⟨A, c, rfl, hc, hnil⟩ := hs.len
    have HB := Lib.hid hB
    have HL := Lib.hid hlt
    have ht : decide ((bs.length : Int) < 2) = true := by simpa using (by omega : (bs.length : Int) < 2)
    clear hbad hnil hB hb hs hlt
    go_enter Tryz.func89, Tryz.ntmps89
    go_wp2
    go_ret
    exact NumQ.short (by decide) hD HB.out HL.out rfl
  · obtain ⟨rfl, o, c, rfl, hc, hcell⟩ := hs.ne (by omega)
    obtain rfl : bad = false := by cases bad; rfl; exact absurd (hbad rfl) (by decide)
    obtain ⟨x0, x1, l, rfl⟩ : ∃ x0 x1 l, bs = x0 :: x1 :: l := atleast2 hlt
    have k0 : w.cell? ⟨D, o, none⟩ = some (.int .u8 x0.toNat) := hcell 0 x0 rfl
    have k1 : w.cell? ⟨D, o + 1, none⟩ = some (.int .u8 x1.toNat) := hcell 1 x1 rfl
    obtain ⟨n, hn⟩ : ∃ n, n = (x0 :: x1 :: l).length := ⟨_, rfl⟩
    rw [← hn] at hc hs hB c0
    have hn2 : 2 ≤ n := by rw [hn]; simp
    have cU : ∀ wx, Below w.heap.size w wx → Calls Tryz.prog 96 #[.agg #[], .slice (some ⟨D, o, none⟩) n c] wx fun e w' => e = .returned (.int .u16 (Lib.beNat [x0, x1])) ∧ Below wx.heap.size wx w' := fun wx hx =>
      Tryz.binary_BE_Uint16 D o n c x0 x1 wx hn2 ((hx.cell (p := ⟨D, o, none⟩) (Nat.lt_trans hD hB.lt)).trans k0) ((hx.cell (p := ⟨D, o + 1, none⟩) (Nat.lt_trans hD hB.lt)).trans k1)
    have hv : Value.int .u16 (Lib.beNat [x0, x1] : Nat) = primV .u16 (Prim.conv .u16 (beDec ((x0 :: x1 :: l).take (Prim.n .u16)))) := by
      show _ = primV .u16 (Prim.conv .u16 (beDec [x0, x1]))
      rw [beNat_dec]; rfl
    generalize Lib.beNat [x0, x1] = V at cU hv
    have HV := Lib.hid hv
    have HB := Lib.hid hB
    have HC := Lib.hid hcell
    have HN := Lib.hid hn
    have HCL := Lib.hid hc
    have ht : decide ((n : Int) < 2) = false := by simpa using (by omega : ¬ (n : Int) < 2)
    clear hbad hB hb hs hlt hcell k0 k1 hn hc hv
    by_cases hcap : c = 2
    all_goals (try subst hcap)
    all_goals
      go_enter Tryz.func89, Tryz.ntmps89
      go_wp2_with fail
      go_region_with (go_at_call 96; refine (cU _ ?_).mono ?_; (exact ⟨rfl, rfl, rfl, Nat.le_refl _, fun _ _ => rfl⟩); rintro e w1 ⟨rfl, hb0⟩; have hb1 : Below w.heap.size w w1 := ⟨hb0.os, hb0.tape, hb0.output, hb0.size, hb0.block⟩; obtain ⟨d0, d1, g0, g1⟩ := (HB.out.below hb1).cells)
      all_goals
        go_wp2
        go_ret
        first
        | exact NumQ.num (p := .u16) (v := .int .u16 V) hD HB.out HN.out HCL.out HC.out (by simp [Prim.n]) hb1 HV.out (conv_rng _ (by decide) _ (by simp [Prim.n])) (.inl rfl)
        | exact NumQ.num (p := .u16) (v := .int .u16 V) hD HB.out HN.out HCL.out HC.out (by simp [Prim.n]) hb1 HV.out (conv_rng _ (by decide) _ (by simp [Prim.n])) (.inr ⟨rfl, rfl⟩)

theorem rd_u64 : U64C Tryz.prog 91 := by
  refine ⟨plain_f Tryz.func91 rfl rfl, fun D rb w nn bs bad h hl => ?_⟩
  obtain ⟨sv, e, hb, hs, hD, hbad⟩ := h
  have hB : RB rb w sv bad e := hb
  obtain ⟨c0, c1, f0, f1⟩ := hB.cells
  by_cases hlt : bs.length < 8
  · obtain ⟨A, c, rfl, hc, hnil⟩ := hs.len
    have HB := Lib.hid hB
    have HL := Lib.hid hlt
    have ht : decide ((bs.length : Int) < 8) = true := by simpa using (by omega : (bs.length : Int) < 8)
    clear hbad hnil hB hb hs hlt
    go_enter Tryz.func91, Tryz.ntmps91
    go_wp2
    go_ret
    exact NumQ.short (by decide) hD HB.out HL.out rfl
  · obtain ⟨rfl, o, c, rfl, hc, hcell⟩ := hs.ne (by omega)
    obtain rfl : bad = false := by cases bad; rfl; exact absurd (hbad rfl) (by decide)
    obtain ⟨x0, x1, x2, x3, x4, x5, x6, x7, l, rfl⟩ : ∃ x0 x1 x2 x3 x4 x5 x6 x7 l, bs = x0 :: x1 :: x2 :: x3 :: x4 :: x5 :: x6 :: x7 :: l := atleast8 hlt
    have k0 : w.cell? ⟨D, o, none⟩ = some (.int .u8 x0.toNat) := hcell 0 x0 rfl
    have k1 : w.cell? ⟨D, o + 1, none⟩ = some (.int .u8 x1.toNat) := hcell 1 x1 rfl
    have k2 : w.cell? ⟨D, o + 2, none⟩ = some (.int .u8 x2.toNat) := hcell 2 x2 rfl
    have k3 : w.cell? ⟨D, o + 3, none⟩ = some (.int .u8 x3.toNat) := hcell 3 x3 rfl
    have k4 : w.cell? ⟨D, o + 4, none⟩ = some (.int .u8 x4.toNat) := hcell 4 x4 rfl
    have k5 : w.cell? ⟨D, o + 5, none⟩ = some (.int .u8 x5.toNat) := hcell 5 x5 rfl
    have k6 : w.cell? ⟨D, o + 6, none⟩ = some (.int .u8 x6.toNat) := hcell 6 x6 rfl
    have k7 : w.cell? ⟨D, o + 7, none⟩ = some (.int .u8 x7.toNat) := hcell 7 x7 rfl
    obtain ⟨n, hn⟩ : ∃ n, n = (x0 :: x1 :: x2 :: x3 :: x4 :: x5 :: x6 :: x7 :: l).length := ⟨_, rfl⟩
    rw [← hn] at hc hs hB c0
    have hn2 : 8 ≤ n := by rw [hn]; simp
    have cU : ∀ wx, Below w.heap.size w wx → Calls Tryz.prog 98 #[.agg #[], .slice (some ⟨D, o, none⟩) n c] wx fun e w' => e = .returned (.int .u64 (Lib.beNat [x0, x1, x2, x3, x4, x5, x6, x7])) ∧ Below wx.heap.size wx w' := fun wx hx =>
      Tryz.binary_BE_Uint64 D o n c x0 x1 x2 x3 x4 x5 x6 x7 wx hn2 ((hx.cell (p := ⟨D, o, none⟩) (Nat.lt_trans hD hB.lt)).trans k0) ((hx.cell (p := ⟨D, o + 1, none⟩) (Nat.lt_trans hD hB.lt)).trans k1) ((hx.cell (p := ⟨D, o + 2, none⟩) (Nat.lt_trans hD hB.lt)).trans k2) ((hx.cell (p := ⟨D, o + 3, none⟩) (Nat.lt_trans hD hB.lt)).trans k3) ((hx.cell (p := ⟨D, o + 4, none⟩) (Nat.lt_trans hD hB.lt)).trans k4) ((hx.cell (p := ⟨D, o + 5, none⟩) (Nat.lt_trans hD hB.lt)).trans k5) ((hx.cell (p := ⟨D, o + 6, none⟩) (Nat.lt_trans hD hB.lt)).trans k6) ((hx.cell (p := ⟨D, o + 7, none⟩) (Nat.lt_trans hD hB.lt)).trans k7)
    have hv : Value.int .u64 (Lib.beNat [x0, x1, x2, x3, x4, x5, x6, x7] : Nat) = (fun n : Int => Value.int .u64 n) (Prim.conv .f64 (beDec ((x0 :: x1 :: x2 :: x3 :: x4 :: x5 :: x6 :: x7 :: l).take (Prim.n .f64)))) := by
      show _ = Value.int .u64 (Prim.conv .f64 (beDec [x0, x1, x2, x3, x4, x5, x6, x7]))
      rw [beNat_dec]; rfl
    generalize Lib.beNat [x0, x1, x2, x3, x4, x5, x6, x7] = V at cU hv
    have HV := Lib.hid hv
    have HB := Lib.hid hB
    have HC := Lib.hid hcell
    have HN := Lib.hid hn
    have HCL := Lib.hid hc
    have ht : decide ((n : Int) < 8) = false := by simpa using (by omega : ¬ (n : Int) < 8)
    clear hbad hB hb hs hlt hcell k0 k1 k2 k3 k4 k5 k6 k7 hn hc hv
    by_cases hcap : c = 8
    all_goals (try subst hcap)
    all_goals
      go_enter Tryz.func91, Tryz.ntmps91
      go_wp2_with fail
      go_region_with (go_at_call 98; refine (cU _ ?_).mono ?_; (exact ⟨rfl, rfl, rfl, Nat.le_refl _, fun _ _ => rfl⟩); rintro e w1 ⟨rfl, hb0⟩; have hb1 : Below w.heap.size w w1 := ⟨hb0.os, hb0.tape, hb0.output, hb0.size, hb0.block⟩; obtain ⟨d0, d1, g0, g1⟩ := (HB.out.below hb1).cells)
      all_goals
        go_wp2
        go_ret
        first
        | exact NumQ.num (p := .f64) (mk := fun n => .int .u64 n) (v := .int .u64 V) hD HB.out HN.out HCL.out HC.out (by simp [Prim.n]) hb1 HV.out (conv_rng _ (by decide) _ (by simp [Prim.n])) (.inl rfl)
        | exact NumQ.num (p := .f64) (mk := fun n => .int .u64 n) (v := .int .u64 V) hD HB.out HN.out HCL.out HC.out (by simp [Prim.n]) hb1 HV.out (conv_rng _ (by decide) _ (by simp [Prim.n])) (.inr ⟨rfl, rfl⟩)

end Go.Proofs.YtpefipjgcpchaaaGreatDoorR.Kf
