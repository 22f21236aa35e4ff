/- The functions that write numbers. -/
import Derived.Test.YtpefipjgcpchaaaGreatDoorRKbG
import Derived.Test.YtpefipjgcpchaaaGreatDoorRPA
import Derived.Test.YtpefipjgcpchaaaGreatDoorRProg
import Derived.Lib.Hide
namespace Go.Proofs.YtpefipjgcpchaaaGreatDoorR.Kf
set_option linter.unusedVariables false
set_option linter.unusedSimpArgs false
open Go Go.RowKit

theorem plain_g {f : Nat} {fn : Func} (h : Tryz.prog.funcs[f]? = some fn) (hb : fn.body.isNone = false) (hn : (fn.name == "runtime.NumGoroutine") = false) : Plain Tryz.prog f := ⟨fn, h, hb, hn⟩
theorem info_u8m : (Tryz.prog.info? 5).map (fun i => (i.zero, i.size, i.bytes)) = some (some (.int .u8 0), 1, 1) := by kernel_rfl
theorem info_u8 : ∃ i, Tryz.prog.info? 5 = some i ∧ i.zero = some (.int .u8 0) ∧ i.size = 1 ∧ i.bytes = 1 := by
  have h := info_u8m
  cases e : Tryz.prog.info? 5 with
  | none => rw [e] at h; cases h
  | some i =>
    rw [e] at h
    simp only [Option.map_some, Option.some.injEq, Prod.mk.injEq] at h
    exact ⟨i, rfl, h.1, h.2.1, h.2.2⟩

set_option maxRecDepth 100000 in
theorem app_u16 : AppN Tryz.prog 5 57 (fun n => .int .u16 n) 0 65536 2 := by
  refine ⟨plain_g Tryz.func57 rfl rfl, fun base w dst ds n hown h0 h1 hb hl => ?_⟩
  obtain ⟨i0, hi, hz0, hz1, hz2⟩ := info_u8
  have HB := Lib.hid hb
  have HO := Lib.hid hown
  have HL := Lib.hid hl
  clear hb hown hl
  go_enter Tryz.func57, Tryz.ntmps57
  go_wp2_with (at_builtin; refine wp_app_new rfl (.tmp 5) (.tmp 11) 22 rfl Tryz.underlying22 hi hz0 hz1 hz2 (bs := beEnc 2 n) rfl HO.out rfl (by simp [beEnc]) ?_ HB.out ?_ ?_; (simp [beEnc, u8v_byteOf]; omega); (simpa [beEnc] using HL.out); intro v1 w1 ho1 hw1; have HO1 := Lib.hid ho1; have HW1 := Lib.hid hw1; clear ho1 hw1)
  go_ret
  exact ⟨_, rfl, HO1.out, HW1.out⟩
set_option maxRecDepth 100000 in
theorem app_u32 : AppN Tryz.prog 5 75 (fun n => .int .u32 n) 0 4294967296 4 := by
  refine ⟨plain_g Tryz.func75 rfl rfl, fun base w dst ds n hown h0 h1 hb hl => ?_⟩
  obtain ⟨i0, hi, hz0, hz1, hz2⟩ := info_u8
  have HB := Lib.hid hb
  have HO := Lib.hid hown
  have HL := Lib.hid hl
  clear hb hown hl
  go_enter Tryz.func75, Tryz.ntmps75
  go_wp2_with (at_builtin; refine wp_app_new rfl (.tmp 5) (.tmp 17) 22 rfl Tryz.underlying22 hi hz0 hz1 hz2 (bs := beEnc 4 n) rfl HO.out rfl (by simp [beEnc]) ?_ HB.out ?_ ?_; (simp [beEnc, u8v_byteOf]; omega); (simpa [beEnc] using HL.out); intro v1 w1 ho1 hw1; have HO1 := Lib.hid ho1; have HW1 := Lib.hid hw1; clear ho1 hw1)
  go_ret
  exact ⟨_, rfl, HO1.out, HW1.out⟩
set_option maxRecDepth 100000 in
theorem app_u64 : AppN Tryz.prog 5 76 (fun n => .int .u64 n) 0 18446744073709551616 8 := by
  refine ⟨plain_g Tryz.func76 rfl rfl, fun base w dst ds n hown h0 h1 hb hl => ?_⟩
  obtain ⟨i0, hi, hz0, hz1, hz2⟩ := info_u8
  have HB := Lib.hid hb
  have HO := Lib.hid hown
  have HL := Lib.hid hl
  clear hb hown hl
  go_enter Tryz.func76, Tryz.ntmps76
  go_wp2_with (at_builtin; refine wp_app_new rfl (.tmp 5) (.tmp 29) 22 rfl Tryz.underlying22 hi hz0 hz1 hz2 (bs := beEnc 8 n) rfl HO.out rfl (by simp [beEnc]) ?_ HB.out ?_ ?_; (simp [beEnc, u8v_byteOf]; omega); (simpa [beEnc] using HL.out); intro v1 w1 ho1 hw1; have HO1 := Lib.hid ho1; have HW1 := Lib.hid hw1; clear ho1 hw1)
  go_ret
  exact ⟨_, rfl, HO1.out, HW1.out⟩
set_option maxRecDepth 100000 in
theorem app_i16 : AppN Tryz.prog 5 54 (fun n => .int .i16 n) (-32768) 32768 2 := by
  refine ⟨plain_g Tryz.func54 rfl rfl, fun base w dst ds n hown h0 h1 hb hl => ?_⟩
  have cA := Lib.hid (app_u16.2 base w dst ds (n % 65536) hown (by omega) (by omega) hb hl)
  have E : ds ++ beEnc 2 (n % 65536) = ds ++ beEnc 2 n := by rw [beEnc_mod 2 (n % 65536) n (by simp)]
  have HE := Lib.hid E
  clear E hb hown hl
  go_enter Tryz.func54, Tryz.ntmps54
  go_wp2_with (go_at_call 57; refine cA.out.mono ?_; rintro e1 w1 ⟨v1, rfl, ho1, hw1⟩; rw [HE.out] at ho1; have HO1 := Lib.hid ho1; have HW1 := Lib.hid hw1; clear ho1 hw1)
  go_ret
  exact ⟨_, rfl, HO1.out, HW1.out⟩
set_option maxRecDepth 100000 in
theorem app_i32 : AppN Tryz.prog 5 40 (fun n => .int .i32 n) (-2147483648) 2147483648 4 := by
  refine ⟨plain_g Tryz.func40 rfl rfl, fun base w dst ds n hown h0 h1 hb hl => ?_⟩
  have cA := Lib.hid (app_u32.2 base w dst ds (n % 4294967296) hown (by omega) (by omega) hb hl)
  have E : ds ++ beEnc 4 (n % 4294967296) = ds ++ beEnc 4 n := by rw [beEnc_mod 4 (n % 4294967296) n (by simp)]
  have HE := Lib.hid E
  clear E hb hown hl
  go_enter Tryz.func40, Tryz.ntmps40
  go_wp2_with (go_at_call 75; refine cA.out.mono ?_; rintro e1 w1 ⟨v1, rfl, ho1, hw1⟩; rw [HE.out] at ho1; have HO1 := Lib.hid ho1; have HW1 := Lib.hid hw1; clear ho1 hw1)
  go_ret
  exact ⟨_, rfl, HO1.out, HW1.out⟩
set_option maxRecDepth 100000 in
theorem app_i64 : AppN Tryz.prog 5 41 (fun n => .int .i64 n) (-9223372036854775808) 9223372036854775808 8 := by
  refine ⟨plain_g Tryz.func41 rfl rfl, fun base w dst ds n hown h0 h1 hb hl => ?_⟩
  have cA := Lib.hid (app_u64.2 base w dst ds (n % 18446744073709551616) hown (by omega) (by omega) hb hl)
  have E : ds ++ beEnc 8 (n % 18446744073709551616) = ds ++ beEnc 8 n := by rw [beEnc_mod 8 (n % 18446744073709551616) n (by simp)]
  have HE := Lib.hid E
  clear E hb hown hl
  go_enter Tryz.func41, Tryz.ntmps41
  go_wp2_with (go_at_call 76; refine cA.out.mono ?_; rintro e1 w1 ⟨v1, rfl, ho1, hw1⟩; rw [HE.out] at ho1; have HO1 := Lib.hid ho1; have HW1 := Lib.hid hw1; clear ho1 hw1)
  go_ret
  exact ⟨_, rfl, HO1.out, HW1.out⟩
set_option maxRecDepth 100000 in
theorem app_bool : AppN Tryz.prog 5 42 (fun n => .bool (n != 0)) 0 2 1 := by
  refine ⟨plain_g Tryz.func42 rfl rfl, fun base w dst ds n hown h0 h1 hb hl => ?_⟩
  obtain ⟨i0, hi, hz0, hz1, hz2⟩ := info_u8
  have HB := Lib.hid hb
  have HO := Lib.hid hown
  have HL := Lib.hid hl
  clear hb hown hl
  obtain rfl | rfl : n = 0 ∨ n = 1 := by omega
  · show Calls _ _ #[dst, .bool false] _ _
    go_enter Tryz.func42, Tryz.ntmps42
    go_wp2_with (at_builtin; refine wp_app_new rfl (.tmp 9) (.tmp 10) 22 rfl Tryz.underlying22 hi hz0 hz1 hz2 (bs := beEnc 1 0) rfl HO.out rfl (by simp [beEnc]) (by rfl) HB.out HL.out ?_; intro v1 w1 ho1 hw1; have HO1 := Lib.hid ho1; have HW1 := Lib.hid hw1; clear ho1 hw1)
    go_ret
    exact ⟨_, rfl, HO1.out, HW1.out⟩
  · show Calls _ _ #[dst, .bool true] _ _
    go_enter Tryz.func42, Tryz.ntmps42
    go_wp2_with (at_builtin; refine wp_app_new rfl (.tmp 6) (.tmp 7) 22 rfl Tryz.underlying22 hi hz0 hz1 hz2 (bs := beEnc 1 1) rfl HO.out rfl (by simp [beEnc]) (by rfl) HB.out HL.out ?_; intro v1 w1 ho1 hw1; have HO1 := Lib.hid ho1; have HW1 := Lib.hid hw1; clear ho1 hw1)
    go_ret
    exact ⟨_, rfl, HO1.out, HW1.out⟩
end Go.Proofs.YtpefipjgcpchaaaGreatDoorR.Kf
