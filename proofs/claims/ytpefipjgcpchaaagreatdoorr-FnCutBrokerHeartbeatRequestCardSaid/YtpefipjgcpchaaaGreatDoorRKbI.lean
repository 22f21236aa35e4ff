/- Writing a number in groups of seven bits. -/
import Derived.Test.YtpefipjgcpchaaaGreatDoorRKbH
import Derived.Test.YtpefipjgcpchaaaGreatDoorRKbU
import Derived.Test.YtpefipjgcpchaaaGreatDoorRShelf
import Derived.Lib.ItoaNum
import Derived.Lib.BitFns
namespace Go.Proofs.YtpefipjgcpchaaaGreatDoorR.Kf
set_option linter.unusedVariables false
set_option linter.unusedSimpArgs false
open Go Go.RowKit

/-- How many groups a number of so many bits takes. -/
def gl (b : Nat) : Nat := if b = 0 then 1 else (b + 6) / 7

def tb : ByteArray := ⟨#[1, 1, 1, 1, 1, 1, 1, 1, 2, 2, 2, 2, 2, 2, 2, 3, 3, 3, 3, 3, 3, 3, 4, 4, 4, 4, 4, 4, 4, 5, 5, 5, 5, 5, 5, 5, 6, 6, 6, 6, 6, 6, 6, 7, 7, 7, 7, 7, 7, 7, 8, 8, 8, 8, 8, 8, 8, 9, 9, 9, 9, 9, 9, 9, 10, 0, 0, 0, 0, 0, 0, 0, 0, 0, 0, 0, 0, 0, 0, 0, 0, 0, 0, 0, 0, 0, 0, 0, 0, 0, 0, 0, 0, 0, 0, 0, 0, 0, 0, 0, 0, 0, 0, 0, 0, 0, 0, 0, 0, 0, 0, 0, 0, 0, 0, 0, 0, 0, 0, 0, 0, 0, 0, 0, 0, 0, 0, 0, 0, 0, 0, 0, 0, 0, 0, 0, 0, 0, 0, 0, 0, 0, 0, 0, 0, 0, 0, 0, 0, 0, 0, 0, 0, 0, 0, 0, 0, 0, 0, 0, 0, 0, 0, 0, 0, 0, 0, 0, 0, 0, 0, 0, 0, 0, 0, 0, 0, 0, 0, 0, 0, 0, 0, 0, 0, 0, 0, 0, 0, 0, 0, 0, 0, 0, 0, 0, 0, 0, 0, 0, 0, 0, 0, 0, 0, 0, 0, 0, 0, 0, 0, 0, 0, 0, 0, 0, 0, 0, 0, 0, 0, 0, 0, 0, 0, 0, 0, 0, 0, 0, 0, 0, 0, 0, 0, 0, 0, 0, 0, 0, 0, 0, 0, 0, 0, 0, 0, 0, 0, 0, 0, 0, 0, 0, 0, 0]⟩
set_option maxRecDepth 100000 in
theorem tb_eq (b : Nat) (hb : b ≤ 32) (h : b < tb.size) : wrap64 ((tb[b]'h).toNat : Int) = (gl b : Nat) := by
  have e : ∀ c : Fin 33, (tb.data.getD c.1 0).toNat = gl c.1 := by decide +kernel
  have e1 : (tb.data.getD b 0).toNat = gl b := e ⟨b, by omega⟩
  have e2 : tb[b]'h = tb.data.getD b 0 := by
    have h' : b < tb.data.size := h
    rw [Array.getD_eq_getD_getElem?, Array.getElem?_eq_getElem h']
    rfl
  rw [e2, e1]
  have : gl b ≤ 100 := by unfold gl; split <;> omega
  unfold wrap64
  omega

set_option maxRecDepth 100000 in
theorem uvlen (n b : Nat) (h : n < 4294967296) (hb : Lib.bitLen n = b) (hb2 : b ≤ 32) (w : World) :
    Calls Tryz.prog 77 #[.int .u32 n] w fun e w' => e = .returned (.int .i64 (gl b : Nat)) ∧ w' = w := by
  have cB := Lib.hid (Tryz.bits_Len32 (n : Int) w (by omega) (by omega))
  have hb3 := Lib.hid hb
  have hb4 : (b : Int) < 256 := by omega
  have hb5 : b < 256 := by omega
  clear hb
  go_enter Tryz.func77, Tryz.ntmps77
  go_wp2_with (go_at_call 93; refine cB.out.mono ?_; rintro e1 w1 ⟨rfl, rfl⟩; rw [Int.toNat_natCast, hb3.out])
  go_ret
  exact ⟨congrArg (fun z => Ending.returned (.int .i64 z)) (tb_eq b hb2 _), rfl⟩

theorem bitLenAux_le : ∀ (f x : Nat), Lib.bitLenAux f x ≤ f := by
  intro f
  induction f with
  | zero => intro x; simp [Lib.bitLenAux]
  | succ f ih =>
    intro x
    simp only [Lib.bitLenAux]
    split
    · omega
    · have := ih (x / 2); omega
theorem bitLen_in (n k : Nat) (h : n < 2 ^ k) (hk : k ≤ 64) : Lib.bitLen n ≤ k := by
  unfold Lib.bitLen
  rw [Lib.bitLenAux_fuel k n h 64 hk]
  exact bitLenAux_le k n
theorem bitLen_ge (n k : Nat) (h : 2 ^ k ≤ n) (hn : n < 2 ^ 64) : k < Lib.bitLen n := by
  have h0 : n ≠ 0 := by have := Nat.two_pow_pos k; omega
  have := Lib.bitLenAux_bounds 64 n hn h0
  unfold Lib.bitLen
  rcases Nat.lt_or_ge k (Lib.bitLenAux 64 n) with h1 | h1
  · exact h1
  · exfalso
    have h2 : 2 ^ Lib.bitLenAux 64 n ≤ 2 ^ k := Nat.pow_le_pow_right (by decide) h1
    omega

theorem or128 (y : Int) (h0 : 0 ≤ y) (h1 : y < 128) : bits .or .u32 y 128 = y + 128 := or_low 128 y 7 (by decide) (by decide) (by decide) h0 h1 (by omega)
theorem and127u (x : Int) (h0 : 0 ≤ x) (h1 : x < 4294967296) : bits .and .u32 x 127 = x % 128 := bits_mask .u32 32 (by decide) wraps_u32 7 (by decide) x h0 h1
theorem grp (x : Int) (h0 : 0 ≤ x) (h1 : x < 4294967296) : bits .or .u32 (bits .and .u32 x 127) 128 = x % 128 + 128 := by
  rw [and127u x h0 h1]; exact or128 _ (by omega) (by omega)
theorem u8v_of (m : Nat) (h : m < 256) : u8v (UInt8.ofNat m) = .int .u8 m := by unfold u8v; rw [UInt8.toNat_ofNat_of_lt' h]
theorem uvlen_k (n k : Nat) (h : n < 4294967296) (hk : 1 ≤ k ∧ k ≤ 5) (h1 : k = 1 ∨ 2 ^ (7 * (k - 1)) ≤ n) (h2 : n < 2 ^ (7 * k)) (w : World) :
    Calls Tryz.prog 77 #[.int .u32 n] w fun e w' => e = .returned (.int .i64 (k : Nat)) ∧ w' = w := by
  have h3 : Lib.bitLen n ≤ 32 := bitLen_in n 32 (by omega) (by decide)
  have h4 : Lib.bitLen n ≤ 7 * k := bitLen_in n (7 * k) h2 (by omega)
  have h5 : k = 1 ∨ 7 * (k - 1) < Lib.bitLen n := by
    rcases h1 with h1 | h1
    · exact .inl h1
    · exact .inr (bitLen_ge n _ h1 (by omega))
  have h6 : gl (Lib.bitLen n) = k := by unfold gl; split <;> omega
  have := uvlen n _ h rfl h3 w
  rwa [h6] at this

theorem uvEnc_k1 (n : Nat) (h2 : n < 128) : uvEnc n = [UInt8.ofNat (n)] := by
  simp [uvEnc, uvEncF, Nat.div_div_eq_div_mul, show n < 128 by omega]
set_option maxRecDepth 100000 in
theorem app_uv1 (base : Nat) (w : World) (dst : Value) (ds : List UInt8) (n : Nat) (hown : Own 5 base w dst ds) (h2 : n < 128) (hb : base ≤ w.heap.size) (hl : ds.length + 10 ≤ lim2) :
    Calls Tryz.prog 43 #[dst, .int .u32 n] w (AppPx 5 base w dst (ds ++ uvEnc n)) := by
  obtain ⟨i0, hi, hz0, hz1, hz2⟩ := info_u8
  have cL := Lib.hid (uvlen_k n 1 (by omega) (by decide) (by first | exact .inl rfl | (refine .inr ?_; simpa using h1)) (by have := h2; simp; omega) w)
  have hu := uvEnc_k1 n h2
  have HU := Lib.hid hu
  have HB := Lib.hid hb
  have HO := Lib.hid hown
  have HL := Lib.hid hl
  have h0 : (0 : Int) ≤ n := by omega
  have h3 : (n : Int) < 4294967296 := by omega
  clear hb hown hl hu
  go_enter Tryz.func43, Tryz.ntmps43
  go_wp2_with (first
    | (go_at_call 77; refine cL.out.mono ?_; rintro e1 w1 ⟨rfl, rfl⟩)
    | (at_builtin; refine wp_app_newx rfl (.tmp 87) (.tmp 90) 22 rfl Tryz.underlying22 hi hz0 hz1 hz2 (bs := uvEnc n) rfl HO.out rfl ?_ ?_ HB.out ?_ ?_; (rw [HU.out]; rfl); (rw [HU.out]; refine congrArg List.toArray ?_; simp (disch := omega) only [List.map_cons, List.map_nil, grp, u8v_of] <;> (simp only [List.cons.injEq, Value.int.injEq, true_and, and_true]; omega)); (rw [HU.out]; have := HL.out; simp; omega); intro v1 w1 ho1 hw1; have HO1 := Lib.hid ho1; have HW1 := Lib.hid hw1; clear ho1 hw1))
  go_ret
  exact ⟨_, rfl, HO1.out, HW1.out⟩

theorem uvEnc_k2 (n : Nat) (h1 : 128 ≤ n) (h2 : n < 16384) : uvEnc n = [UInt8.ofNat (n % 128 + 128), UInt8.ofNat (n / 128)] := by
  simp [uvEnc, uvEncF, Nat.div_div_eq_div_mul, show ¬ n < 128 by omega, show n / 128 < 128 by omega]
set_option maxRecDepth 100000 in
theorem app_uv2 (base : Nat) (w : World) (dst : Value) (ds : List UInt8) (n : Nat) (hown : Own 5 base w dst ds) (h1 : 128 ≤ n) (h2 : n < 16384) (hb : base ≤ w.heap.size) (hl : ds.length + 10 ≤ lim2) :
    Calls Tryz.prog 43 #[dst, .int .u32 n] w (AppPx 5 base w dst (ds ++ uvEnc n)) := by
  obtain ⟨i0, hi, hz0, hz1, hz2⟩ := info_u8
  have cL := Lib.hid (uvlen_k n 2 (by omega) (by decide) (by first | exact .inl rfl | (refine .inr ?_; simpa using h1)) (by have := h2; simp; omega) w)
  have hu := uvEnc_k2 n h1 h2
  have HU := Lib.hid hu
  have HB := Lib.hid hb
  have HO := Lib.hid hown
  have HL := Lib.hid hl
  have h0 : (0 : Int) ≤ n := by omega
  have h3 : (n : Int) < 4294967296 := by omega
  clear hb hown hl hu
  go_enter Tryz.func43, Tryz.ntmps43
  go_wp2_with (first
    | (go_at_call 77; refine cL.out.mono ?_; rintro e1 w1 ⟨rfl, rfl⟩)
    | (at_builtin; refine wp_app_newx rfl (.tmp 75) (.tmp 83) 22 rfl Tryz.underlying22 hi hz0 hz1 hz2 (bs := uvEnc n) rfl HO.out rfl ?_ ?_ HB.out ?_ ?_; (rw [HU.out]; rfl); (rw [HU.out]; refine congrArg List.toArray ?_; simp (disch := omega) only [List.map_cons, List.map_nil, grp, u8v_of] <;> (simp only [List.cons.injEq, Value.int.injEq, true_and, and_true]; omega)); (rw [HU.out]; have := HL.out; simp; omega); intro v1 w1 ho1 hw1; have HO1 := Lib.hid ho1; have HW1 := Lib.hid hw1; clear ho1 hw1))
  go_ret
  exact ⟨_, rfl, HO1.out, HW1.out⟩

theorem uvEnc_k3 (n : Nat) (h1 : 16384 ≤ n) (h2 : n < 2097152) : uvEnc n = [UInt8.ofNat (n % 128 + 128), UInt8.ofNat (n / 128 % 128 + 128), UInt8.ofNat (n / 16384)] := by
  simp [uvEnc, uvEncF, Nat.div_div_eq_div_mul, show ¬ n < 128 by omega, show ¬ n / 128 < 128 by omega, show n / 16384 < 128 by omega]
set_option maxRecDepth 100000 in
theorem app_uv3 (base : Nat) (w : World) (dst : Value) (ds : List UInt8) (n : Nat) (hown : Own 5 base w dst ds) (h1 : 16384 ≤ n) (h2 : n < 2097152) (hb : base ≤ w.heap.size) (hl : ds.length + 10 ≤ lim2) :
    Calls Tryz.prog 43 #[dst, .int .u32 n] w (AppPx 5 base w dst (ds ++ uvEnc n)) := by
  obtain ⟨i0, hi, hz0, hz1, hz2⟩ := info_u8
  have cL := Lib.hid (uvlen_k n 3 (by omega) (by decide) (by first | exact .inl rfl | (refine .inr ?_; simpa using h1)) (by have := h2; simp; omega) w)
  have hu := uvEnc_k3 n h1 h2
  have HU := Lib.hid hu
  have HB := Lib.hid hb
  have HO := Lib.hid hown
  have HL := Lib.hid hl
  have h0 : (0 : Int) ≤ n := by omega
  have h3 : (n : Int) < 4294967296 := by omega
  clear hb hown hl hu
  go_enter Tryz.func43, Tryz.ntmps43
  go_wp2_with (first
    | (go_at_call 77; refine cL.out.mono ?_; rintro e1 w1 ⟨rfl, rfl⟩)
    | (at_builtin; refine wp_app_newx rfl (.tmp 58) (.tmp 71) 22 rfl Tryz.underlying22 hi hz0 hz1 hz2 (bs := uvEnc n) rfl HO.out rfl ?_ ?_ HB.out ?_ ?_; (rw [HU.out]; rfl); (rw [HU.out]; refine congrArg List.toArray ?_; simp (disch := omega) only [List.map_cons, List.map_nil, grp, u8v_of] <;> (simp only [List.cons.injEq, Value.int.injEq, true_and, and_true]; omega)); (rw [HU.out]; have := HL.out; simp; omega); intro v1 w1 ho1 hw1; have HO1 := Lib.hid ho1; have HW1 := Lib.hid hw1; clear ho1 hw1))
  go_ret
  exact ⟨_, rfl, HO1.out, HW1.out⟩

theorem uvEnc_k4 (n : Nat) (h1 : 2097152 ≤ n) (h2 : n < 268435456) : uvEnc n = [UInt8.ofNat (n % 128 + 128), UInt8.ofNat (n / 128 % 128 + 128), UInt8.ofNat (n / 16384 % 128 + 128), UInt8.ofNat (n / 2097152)] := by
  simp [uvEnc, uvEncF, Nat.div_div_eq_div_mul, show ¬ n < 128 by omega, show ¬ n / 128 < 128 by omega, show ¬ n / 16384 < 128 by omega, show n / 2097152 < 128 by omega]
set_option maxRecDepth 100000 in
theorem app_uv4 (base : Nat) (w : World) (dst : Value) (ds : List UInt8) (n : Nat) (hown : Own 5 base w dst ds) (h1 : 2097152 ≤ n) (h2 : n < 268435456) (hb : base ≤ w.heap.size) (hl : ds.length + 10 ≤ lim2) :
    Calls Tryz.prog 43 #[dst, .int .u32 n] w (AppPx 5 base w dst (ds ++ uvEnc n)) := by
  obtain ⟨i0, hi, hz0, hz1, hz2⟩ := info_u8
  have cL := Lib.hid (uvlen_k n 4 (by omega) (by decide) (by first | exact .inl rfl | (refine .inr ?_; simpa using h1)) (by have := h2; simp; omega) w)
  have hu := uvEnc_k4 n h1 h2
  have HU := Lib.hid hu
  have HB := Lib.hid hb
  have HO := Lib.hid hown
  have HL := Lib.hid hl
  have h0 : (0 : Int) ≤ n := by omega
  have h3 : (n : Int) < 4294967296 := by omega
  clear hb hown hl hu
  go_enter Tryz.func43, Tryz.ntmps43
  go_wp2_with (first
    | (go_at_call 77; refine cL.out.mono ?_; rintro e1 w1 ⟨rfl, rfl⟩)
    | (at_builtin; refine wp_app_newx rfl (.tmp 36) (.tmp 54) 22 rfl Tryz.underlying22 hi hz0 hz1 hz2 (bs := uvEnc n) rfl HO.out rfl ?_ ?_ HB.out ?_ ?_; (rw [HU.out]; rfl); (rw [HU.out]; refine congrArg List.toArray ?_; simp (disch := omega) only [List.map_cons, List.map_nil, grp, u8v_of] <;> (simp only [List.cons.injEq, Value.int.injEq, true_and, and_true]; omega)); (rw [HU.out]; have := HL.out; simp; omega); intro v1 w1 ho1 hw1; have HO1 := Lib.hid ho1; have HW1 := Lib.hid hw1; clear ho1 hw1))
  go_ret
  exact ⟨_, rfl, HO1.out, HW1.out⟩

theorem uvEnc_k5 (n : Nat) (h1 : 268435456 ≤ n) (h2 : n < 4294967296) : uvEnc n = [UInt8.ofNat (n % 128 + 128), UInt8.ofNat (n / 128 % 128 + 128), UInt8.ofNat (n / 16384 % 128 + 128), UInt8.ofNat (n / 2097152 % 128 + 128), UInt8.ofNat (n / 268435456)] := by
  simp [uvEnc, uvEncF, Nat.div_div_eq_div_mul, show ¬ n < 128 by omega, show ¬ n / 128 < 128 by omega, show ¬ n / 16384 < 128 by omega, show ¬ n / 2097152 < 128 by omega, show n / 268435456 < 128 by omega]
set_option maxRecDepth 100000 in
theorem app_uv5 (base : Nat) (w : World) (dst : Value) (ds : List UInt8) (n : Nat) (hown : Own 5 base w dst ds) (h1 : 268435456 ≤ n) (h2 : n < 4294967296) (hb : base ≤ w.heap.size) (hl : ds.length + 10 ≤ lim2) :
    Calls Tryz.prog 43 #[dst, .int .u32 n] w (AppPx 5 base w dst (ds ++ uvEnc n)) := by
  obtain ⟨i0, hi, hz0, hz1, hz2⟩ := info_u8
  have cL := Lib.hid (uvlen_k n 5 (by omega) (by decide) (by first | exact .inl rfl | (refine .inr ?_; simpa using h1)) (by have := h2; simp; omega) w)
  have hu := uvEnc_k5 n h1 h2
  have HU := Lib.hid hu
  have HB := Lib.hid hb
  have HO := Lib.hid hown
  have HL := Lib.hid hl
  have h0 : (0 : Int) ≤ n := by omega
  have h3 : (n : Int) < 4294967296 := by omega
  clear hb hown hl hu
  go_enter Tryz.func43, Tryz.ntmps43
  go_wp2_with (first
    | (go_at_call 77; refine cL.out.mono ?_; rintro e1 w1 ⟨rfl, rfl⟩)
    | (at_builtin; refine wp_app_newx rfl (.tmp 9) (.tmp 32) 22 rfl Tryz.underlying22 hi hz0 hz1 hz2 (bs := uvEnc n) rfl HO.out rfl ?_ ?_ HB.out ?_ ?_; (rw [HU.out]; rfl); (rw [HU.out]; refine congrArg List.toArray ?_; simp (disch := omega) only [List.map_cons, List.map_nil, grp, u8v_of] <;> (simp only [List.cons.injEq, Value.int.injEq, true_and, and_true]; omega)); (rw [HU.out]; have := HL.out; simp; omega); intro v1 w1 ho1 hw1; have HO1 := Lib.hid ho1; have HW1 := Lib.hid hw1; clear ho1 hw1))
  go_ret
  exact ⟨_, rfl, HO1.out, HW1.out⟩

theorem app_uvx (base : Nat) (w : World) (dst : Value) (ds : List UInt8) (n : Nat) (hown : Own 5 base w dst ds) (h : n < 4294967296) (hb : base ≤ w.heap.size) (hl : ds.length + 10 ≤ lim2) :
    Calls Tryz.prog 43 #[dst, .int .u32 n] w (AppPx 5 base w dst (ds ++ uvEnc n)) := by
  by_cases h1 : n < 128
  · exact app_uv1 base w dst ds n hown h1 hb hl
  by_cases h2 : n < 16384
  · exact app_uv2 base w dst ds n hown (by omega) h2 hb hl
  by_cases h3 : n < 2097152
  · exact app_uv3 base w dst ds n hown (by omega) h3 hb hl
  by_cases h4 : n < 268435456
  · exact app_uv4 base w dst ds n hown (by omega) h4 hb hl
  exact app_uv5 base w dst ds n hown (by omega) h hb hl
theorem app_uvarint : UvC Tryz.prog 5 43 :=
  ⟨plain_g Tryz.func43 rfl rfl, fun base w dst ds n hown h hb hl => (app_uvx base w dst ds n hown h hb hl).mono fun e w' k => k.p hown⟩
end Go.Proofs.YtpefipjgcpchaaaGreatDoorR.Kf
