/- The reference's small functions. -/
import Derived.Test.YtpefipjgcpchaaaGreatDoorRSpA
import Derived.Test.YtpefipjgcpchaaaGreatDoorRKbH
import Derived.WalkMore
import Derived.LoopTactic
import Derived.Handy
import Derived.Laws.BitsLemmas
import Derived.Lib.Hide
import Derived.Deep.RegionHeld3
import Derived.Laws.CopyOwn
import Derived.Deep.RegionWith
import Derived.Test.YtpefipjgcpchaaaGreatDoorRSpS
namespace Go.Proofs.YtpefipjgcpchaaaGreatDoorR.Kf
set_option linter.unusedVariables false
set_option linter.unusedSimpArgs false
open Go Go.RowKit

theorem beEnc_get (n : Nat) : ∀ (x : Int) (k : Nat), k < n → (beEnc n x)[k]? = some (byteOf (x / 256 ^ (n - 1 - k))) := by
  induction n with
  | zero => intro x k h; omega
  | succ n ih =>
    intro x k h
    simp only [beEnc]
    cases k with
    | zero => simp
    | succ k =>
      rw [List.getElem?_cons_succ, ih x k (by omega), show n + 1 - 1 - (k + 1) = n - 1 - k by omega]
theorem beEnc_take (n : Nat) (x : Int) (k : Nat) (h : k < n) : (beEnc n x).take (k + 1) = (beEnc n x).take k ++ [byteOf (x / 256 ^ (n - 1 - k))] := by
  rw [List.take_add_one, beEnc_get n x k h]; rfl

theorem pow8 (m : Nat) : (2 : Int) ^ (8 * m) = 256 ^ m := by rw [Int.pow_mul]; rfl

set_option maxRecDepth 100000 in
theorem sp_fixed (w : World) (n : Int) (size : Nat) (h0 : -9223372036854775808 ≤ n) (h1 : n < 9223372036854775808) (hs : size ≤ 8) :
    Calls Tryz.prog 62 #[.int .i64 n, .int .i64 size] w (SpP 5 w (beEnc size n)) := by
  obtain ⟨i0, hi, hz0, hz1, hz2⟩ := info_u8
  have ew : wrap64 ((size : Int) - 1) = (size : Int) - 1 := by unfold wrap64; omega
  go_enter Tryz.func62, Tryz.ntmps62
  go_wp2
  go_loopw [5, 6] (fun v i wr => ∃ k : Nat, k ≤ size ∧ i = .int .i64 ((size : Int) - 1 - k) ∧ Own 5 w.heap.size wr v ((beEnc size n).take k) ∧ Only (fun _ => False) w wr)
    (fun _ i _ => ((intOf i) + 1).toNat)
  case atStart => exact ⟨0, Nat.zero_le _, by simp, World.ownsRow_nil _ _ _ _, Only.refl _ _⟩
  case round =>
    obtain ⟨k, hk, rfl, hown, honly⟩ := hrel
    have HO := Lib.hid hown
    have HW := Lib.hid honly
    clear hown honly
    go_wp2_with (at_builtin; refine wp_app_new rfl _ _ 22 rfl Tryz.underlying22 hi hz0 hz1 hz2 rfl HO.out (bs := [byteOf (n / 256 ^ (size - 1 - k))]) rfl rfl ?_ HW.out.size ?_ ?_)
    · simp [u8v_byteOf, pow8]
    · simp [lim2]; omega
    · intro v' w1 ho1 hw1
      have hlt : k < size := by
        have : (k : Int) ≤ (size : Int) - 1 := by assumption
        omega
      have HR : Hid (Own 5 w.heap.size w1 v' ((beEnc size n).take (k + 1)) ∧ Only (fun _ => False) w w1) := Lib.hid ⟨by rw [beEnc_take _ _ _ hlt]; exact ho1, HW.out.own hw1 (Nat.le_refl _)⟩
      clear ho1 hw1 HO HW
      have ek : wrap64 ((size : Int) - 1 - k - 1) = (size : Int) - 1 - k - 1 := by unfold wrap64; omega
      go_wp2
      go_roundw
      case rel => exact ⟨k + 1, by omega, by congr 1; omega, HR.out⟩
      case measure => simp [intOf]; omega
    · have hge : ¬ (k : Int) ≤ (size : Int) - 1 := by first | assumption | (have : (size : Int) - 1 < k := by assumption); omega
      have hk2 : k = size := by omega
      subst hk2
      go_wp2
      go_ret
      exact ⟨_, rfl, by have := HO.out; rwa [List.take_of_length_le (by rw [beEnc_length]; exact Nat.le_refl _)] at this, HW.out⟩

/-- How many octets a number of a kind has. -/
def wid (kind : Nat) : Nat := if kind = 1 then 1 else if kind = 2 ∨ kind = 5 then 2 else if kind = 3 then 4 else 8
set_option maxRecDepth 100000 in
theorem sp_width (w : World) (kind : Nat) : Calls Tryz.prog 63 #[.int .i64 kind] w fun e w' => e = .returned (.int .i64 (wid kind)) ∧ w' = w := by
  have e1 : ((kind : Int) == 1) = decide (kind = 1) := by by_cases h : kind = 1 <;> simp [h]; omega
  have e2 : ((kind : Int) == 2) = decide (kind = 2) := by by_cases h : kind = 2 <;> simp [h]; omega
  have e5 : ((kind : Int) == 5) = decide (kind = 5) := by by_cases h : kind = 5 <;> simp [h]; omega
  have e3 : ((kind : Int) == 3) = decide (kind = 3) := by by_cases h : kind = 3 <;> simp [h]; omega
  unfold wid
  by_cases h1 : kind = 1
  · subst h1
    go_enter Tryz.func63, Tryz.ntmps63
    go_wp2
    go_ret
    exact ⟨rfl, rfl⟩
  by_cases h2 : kind = 2
  · subst h2
    go_enter Tryz.func63, Tryz.ntmps63
    go_wp2
    go_ret
    exact ⟨rfl, rfl⟩
  by_cases h5 : kind = 5
  · subst h5
    go_enter Tryz.func63, Tryz.ntmps63
    go_wp2
    go_ret
    exact ⟨rfl, rfl⟩
  by_cases h3 : kind = 3
  · subst h3
    go_enter Tryz.func63, Tryz.ntmps63
    go_wp2
    go_ret
    exact ⟨rfl, rfl⟩
  simp only [h1, h2, h5, h3, or_self, if_false] at *
  go_enter Tryz.func63, Tryz.ntmps63
  go_wp2
  go_ret
  exact ⟨rfl, rfl⟩

/-- A slice's first things, at most 32767. -/
theorem min_most (n : Nat) : (if (n : Int) ≤ 32767 then (n : Int) else 32767) = ((min n most : Nat) : Int) := by unfold most; split <;> omega
set_option maxRecDepth 100000 in
theorem sp_whole (w : World) (B : Nat) (v : Value) (s : List UInt8) (h : Oc w B v s) : Calls Tryz.prog 38 #[v] w fun e w' => ∃ v', e = .returned v' ∧ Oc w B v' (s.take most) ∧ w' = w := by
  rcases h with ⟨rfl, rfl⟩ | ⟨a, c, rfl, hc, hcell⟩
  · go_enter Tryz.func38, Tryz.ntmps38
    go_wp2
    go_ret
    exact ⟨_, rfl, Oc.nil _ _, rfl⟩
  · have H : Hid (Oc w B (.slice (some a) (s.take most).length c) (s.take most)) := Lib.hid (.inr ⟨a, c, rfl, by simp; omega, fun j b hb => hcell j b (by rw [List.getElem?_take] at hb; split at hb; exact hb; cases hb)⟩)
    have el : (s.take most).length = min s.length most := by simp [Nat.min_comm]
    rw [el] at H
    clear hcell el
    generalize s.length = n at H hc
    go_enter Tryz.func38, Tryz.ntmps38
    go_wp2
    · have e : min n most = 32767 := by unfold most; omega
      rw [e] at H
      go_ret
      exact ⟨_, rfl, H.out, rfl⟩
    · have e : min n most = n := by unfold most; omega
      rw [e] at H
      go_ret
      exact ⟨_, rfl, H.out, rfl⟩
set_option maxRecDepth 100000 in
theorem sp_things (w : World) (B : Nat) (v : Value) (l : List Tr) (h : TrsC w B l v) : Calls Tryz.prog 59 #[v] w fun e w' => ∃ v', e = .returned v' ∧ TrsC w B (l.take most) v' ∧ w' = w := by
  obtain ⟨f, hs, hT⟩ := h
  rcases hs with ⟨rfl, h0⟩ | ⟨a, c, rfl, hc, hcell⟩
  · obtain rfl := List.eq_nil_of_length_eq_zero h0
    go_enter Tryz.func59, Tryz.ntmps59
    go_wp2
    go_ret
    exact ⟨_, rfl, ⟨fun _ => [], .inl ⟨rfl, rfl⟩, by simp⟩, rfl⟩
  · have el : (l.take most).length = min l.length most := by simp [Nat.min_comm]
    have H : Hid (TrsC w B (l.take most) (.slice (some a) (l.take most).length c)) := Lib.hid ⟨f, .inr ⟨a, c, rfl, by rw [el]; omega, fun j hj => hcell j (by omega)⟩, fun j t hj => hT j t (by rw [List.getElem?_take] at hj; split at hj; exact hj; cases hj)⟩
    rw [el] at H
    clear hcell el hT
    generalize l.length = n at H hc
    go_enter Tryz.func59, Tryz.ntmps59
    go_wp2
    · have e : min n most = 32767 := by unfold most; omega
      rw [e] at H
      go_ret
      exact ⟨_, rfl, H.out, rfl⟩
    · have e : min n most = n := by unfold most; omega
      rw [e] at H
      go_ret
      exact ⟨_, rfl, H.out, rfl⟩

/-- The field of a number. -/
def trAt (l : List Tr) (i : Nat) : Tr := (l[i]?).getD tr0
theorem trAt_in {l : List Tr} {i : Nat} (h : i < l.length) : trAt l i = l[i] := by simp [trAt, h]
theorem trAt_out {l : List Tr} {i : Nat} (h : ¬ i < l.length) : trAt l i = tr0 := by
  have : l[i]? = none := List.getElem?_eq_none (by omega)
  simp [trAt, this]
set_option maxRecDepth 100000 in
theorem sp_at (w : World) (B : Nat) (t : Tr) (cs : List Value) (i : Nat) (hB : B ≤ w.heap.size) (h : TrC w B t cs) : Calls Tryz.prog 33 #[.agg cs.toArray, .int .i64 i] w fun e w' => ∃ cs', e = .returned (.agg cs'.toArray) ∧ TrC w' B (trAt t.l i) cs' ∧ Only (fun _ => False) w w' := by
  cases h with
  | @mk n s nl l u vs vl vu fl fu h0 h1 hs hl hL hu hU =>
  show Calls _ _ _ _ fun e w' => ∃ cs', e = .returned (.agg cs'.toArray) ∧ TrC w' B (trAt l i) cs' ∧ Only (fun _ => False) w w'
  by_cases hi : i < l.length
  · obtain ⟨b, o, c, rfl, hc, hab, hlen, hcell⟩ := hl.lit (by decide) hi
    have hT := hL i _ (List.getElem?_eq_getElem hi)
    rw [trAt_in hi]
    have HT := Lib.hid hT
    generalize l[i] = t at HT hT
    generalize fl i = cs at HT hT hcell
    clear hL hU hs hl hu h0 h1 hlen
    have hb : b < w.heap.size := by omega
    have HB := Lib.hid hB
    clear hB hab
    obtain ⟨n', A1, n1, c1, nl', A2, n2, c2, A3, n3, c3, rfl⟩ := hT.form
    clear hT
    have d0 := hcell 0 _ rfl
    have d1 := hcell 1 _ rfl
    have d2 := hcell 2 _ rfl
    have d3 := hcell 3 _ rfl
    have d4 := hcell 4 _ rfl
    rw [Nat.add_zero] at d0
    clear hcell
    generalize l.length = m at hi hc
    have hi' : (i : Int) < (m : Int) := by omega
    go_enter Tryz.func33, Tryz.ntmps33
    go_wp2
    go_returns
    exact ⟨_, rfl, HT.out.keep ((((Only.refl _ _).alloc _).alloc _ : Only (fun _ => False) _ _).kept0 HB.out), ((Only.refl _ _).alloc _).alloc _⟩
  · rw [trAt_out hi]
    obtain ⟨A, c, rfl, hc⟩ := hl.sl
    clear hL hU hs hl hu h0 h1
    have HB := Lib.hid hB
    clear hB
    generalize l.length = m at hi hc
    have hi' : ¬ (i : Int) < (m : Int) := by omega
    go_enter Tryz.func33, Tryz.ntmps33
    go_wp2
    go_returns
    exact ⟨[_, _, _, _, _], rfl, TrC.zero _ _, ((Only.refl _ _).alloc _).alloc _⟩

set_option maxRecDepth 100000 in
theorem sp_has (w : World) (B : Nat) (x : Fld) (cs : List Value) (v : Int) (h : FldC w B x cs) : Calls Tryz.prog 31 #[.agg cs.toArray, .int .i64 v] w fun e w' => e = .returned (.bool (hasV x.fr x.to v)) ∧ Only (fun _ => False) w w' := by
  obtain ⟨A, n, c, rfl⟩ := h.form
  clear h
  generalize x.fr = fr
  generalize x.to = to
  by_cases h1 : fr ≤ v
  · by_cases h2 : to < 0
    · have t1 : decide (fr ≤ v) = true := by simpa using h1
      have t2 : decide (to < 0) = true := by simpa using h2
      go_enter Tryz.func31, Tryz.ntmps31
      go_wp2
      go_ret
      exact ⟨by congr 2; simp [hasV, h1, h2]; try (intros; omega), (Only.refl _ _).alloc _⟩
    · have t1 : decide (fr ≤ v) = true := by simpa using h1
      have t2 : decide (to < 0) = false := by simpa using h2
      go_enter Tryz.func31, Tryz.ntmps31
      go_wp2
      go_ret
      exact ⟨by congr 2; simp [hasV, h1, h2]; try (intros; omega), (Only.refl _ _).alloc _⟩
  · have t1 : decide (fr ≤ v) = false := by simpa using h1
    go_enter Tryz.func31, Tryz.ntmps31
    go_wp2
    go_ret
    exact ⟨by congr 2; simp [hasV, h1]; try (intros; omega), (Only.refl _ _).alloc _⟩
set_option maxRecDepth 100000 in
theorem sp_null (w : World) (B : Nat) (x : Fld) (cs : List Value) (v : Int) (t : Tr) (ts : List Value) (h : FldC w B x cs) (ht : TrC w B t ts) :
    Calls Tryz.prog 58 #[.agg cs.toArray, .int .i64 v, .agg ts.toArray] w fun e w' => e = .returned (.bool (t.nl && mayN x.nu v)) ∧ Only (fun _ => False) w w' := by
  obtain ⟨A, n, c, rfl⟩ := h.form
  clear h
  generalize x.nu = nu
  cases ht with
  | @mk tn s nl l u vs vl vu fl fu h0 h1 hs hl hL hu hU =>
  obtain ⟨A1, c1, rfl, _⟩ := hs.sl
  obtain ⟨A2, c2, rfl, _⟩ := hl.sl
  obtain ⟨A3, c3, rfl, _⟩ := hu.sl
  show Calls _ _ _ _ fun e w' => e = .returned (.bool (nl && mayN nu v)) ∧ Only (fun _ => False) w w'
  clear h0 h1 hs hl hL hu hU
  cases nl
  · go_enter Tryz.func58, Tryz.ntmps58
    go_wp2
    go_ret
    exact ⟨by simp, ((Only.refl _ _).alloc _).alloc _⟩
  · by_cases h1 : 0 ≤ nu
    · have t1 : decide (0 ≤ nu) = true := by simpa using h1
      go_enter Tryz.func58, Tryz.ntmps58
      go_wp2
      go_ret
      exact ⟨by congr 2; simp [mayN, h1]; try (intros; omega), ((Only.refl _ _).alloc _).alloc _⟩
    · have t1 : decide (0 ≤ nu) = false := by simpa using h1
      go_enter Tryz.func58, Tryz.ntmps58
      go_wp2
      go_ret
      exact ⟨by congr 2; simp [mayN, h1]; try (intros; omega), ((Only.refl _ _).alloc _).alloc _⟩

theorem uvEncF_small {k n : Nat} (h : n < 128) : uvEncF (k + 1) n = [UInt8.ofNat n] := by simp [uvEncF, h]
theorem uvEncF_big {k n : Nat} (h : ¬ n < 128) : uvEncF (k + 1) n = UInt8.ofNat (n % 128 + 128) :: uvEncF k (n / 128) := by simp [uvEncF, h]
theorem u8v_lt (m : Nat) (h : m < 256) : u8v (UInt8.ofNat m) = .int .u8 m := by unfold u8v; rw [UInt8.toNat_ofNat_of_lt' h]
theorem uvEncF_len : ∀ k n, (uvEncF k n).length ≤ k := by
  intro k
  induction k with
  | zero => intro n; simp [uvEncF]
  | succ k ih => intro n; simp only [uvEncF]; split; simp; have := ih (n / 128); simp; omega
theorem wraps_u64 (n : Int) (h₀ : 0 ≤ n) (h₁ : n < 2 ^ 64) : IntKind.u64.wrap n = n := by rw [IntKind.wrap_u64]; omega
def bigB (m : Nat) : UInt8 := UInt8.ofNat (m % 128 + 128)
theorem and127_64 (m : Nat) (h : m < 18446744073709551616) : bits .and .u64 (m : Int) 127 = (m : Int) % 128 :=
  bits_mask .u64 64 (by decide) wraps_u64 7 (by decide) _ (by omega) (by omega)
theorem or128_8 (y : Nat) (h : y < 128) : bits .or .u8 (y : Int) 128 = (y : Int) + 128 := by
  have e : ∀ m : Fin 128, bits .or .u8 (m.1 : Int) 128 = (m.1 : Int) + 128 := by decide +kernel
  exact e ⟨y, h⟩
theorem uvByte (m : Nat) (h : m < 18446744073709551616) : Value.int .u8 (bits .or .u8 (bits .and .u64 (m : Int) 127 % 256) 128) = u8v (bigB m) := by
  unfold bigB
  rw [u8v_lt _ (by omega), and127_64 m h]
  have : (m : Int) % 128 % 256 = ((m % 128 : Nat) : Int) := by omega
  rw [this, or128_8 _ (by omega)]
  congr 1
theorem div_lt {m k : Nat} (h : m < 128 ^ (k + 1 + 1)) : m / 128 < 128 ^ (k + 1) := by
  rw [Nat.pow_succ] at h
  exact Nat.div_lt_of_lt_mul (by rw [Nat.mul_comm]; exact h)
set_option maxRecDepth 100000 in
theorem sp_uvarint (w : World) (n : Nat) (hn : n < 9223372036854775808) : Calls Tryz.prog 36 #[.int .u64 n] w (SpP 5 w (uvEnc n)) := by
  obtain ⟨i0, hi, hz0, hz1, hz2⟩ := info_u8
  go_enter Tryz.func36, Tryz.ntmps36
  go_wp2
  go_loopw [0, 3] (fun i v wr => ∃ (k m : Nat) (out : List UInt8), i = .int .u64 m ∧ m < 128 ^ (k + 1) ∧ m ≤ n ∧ k ≤ 9 ∧ out.length + k ≤ 9 ∧ out ++ uvEncF (k + 1) m = uvEnc n ∧ Own 5 w.heap.size wr v out ∧ Only (fun _ => False) w wr)
    (fun i _ _ => (intOf i).toNat)
  case atStart => exact ⟨9, n, [], rfl, by omega, Nat.le_refl _, Nat.le_refl _, by simp, rfl, World.ownsRow_nil _ _ _ _, Only.refl _ _⟩
  case round =>
    obtain ⟨k, m, out, rfl, hm, hmn, hk, ho, he, hown, honly⟩ := hrel
    have HO := Lib.hid hown
    have HW := Lib.hid honly
    have HE := Lib.hid he
    have HM := Lib.hid hm
    clear hown honly he hm
    go_wp2_with (first
      | (at_builtin; refine wp_app_new rfl (.tmp 6) (.tmp 11) 22 rfl Tryz.underlying22 hi hz0 hz1 hz2 rfl HO.out (bs := [bigB m]) rfl rfl ?_ HW.out.size ?_ ?_)
      | (at_builtin; refine wp_app_new rfl (.tmp 15) (.tmp 18) 22 rfl Tryz.underlying22 hi hz0 hz1 hz2 rfl HO.out (bs := [UInt8.ofNat m]) rfl rfl ?_ HW.out.size ?_ ?_))
    · rw [uvByte m (by omega)]; rfl
    · simp [lim2]; omega
    · intro v' w1 ho1 hw1
      have hlt : ¬ m < 128 := by
        have : (127 : Int) < (m : Int) := by assumption
        omega
      obtain ⟨k, rfl⟩ : ∃ j, k = j + 1 := by
        cases k with
        | zero => exact absurd HM.out (by simpa using hlt)
        | succ j => exact ⟨j, rfl⟩
      have HR : Hid ((out ++ [bigB m]) ++ uvEncF (k + 1) (m / 128) = uvEnc n ∧ Own 5 w.heap.size w1 v' (out ++ [bigB m]) ∧ Only (fun _ => False) w w1) :=
        Lib.hid ⟨by rw [List.append_assoc, List.singleton_append, bigB, ← uvEncF_big hlt]; exact HE.out, ho1, HW.out.own hw1 (Nat.le_refl _)⟩
      have HM2 := Lib.hid (div_lt HM.out)
      clear ho1 hw1 HO HW HE HM
      go_wp2
      go_roundw
      case rel => exact ⟨k, m / 128, out ++ [bigB m], by simp, HM2.out, by omega, by omega, by simp; omega, HR.out⟩
      case measure => simp [intOf]; omega
    · have hlt : m < 128 := by
        have : (m : Int) ≤ 127 := by assumption
        omega
      rw [← u8v_lt m (by omega)]; rfl
    · simp [lim2]; omega
    · intro v' w1 ho1 hw1
      have hlt : m < 128 := by
        have : (m : Int) ≤ 127 := by assumption
        omega
      have HR : Hid (Own 5 w.heap.size w1 v' (uvEnc n) ∧ Only (fun _ => False) w w1) :=
        Lib.hid ⟨by rw [← HE.out, uvEncF_small hlt]; exact ho1, HW.out.own hw1 (Nat.le_refl _)⟩
      clear ho1 hw1 HO HW HE HM
      go_wp2
      go_ret
      exact ⟨_, rfl, HR.out⟩
end Go.Proofs.YtpefipjgcpchaaaGreatDoorR.Kf

namespace Go.Proofs.YtpefipjgcpchaaaGreatDoorR.Kf
set_option linter.unusedVariables false
set_option linter.unusedSimpArgs false
open Go Go.RowKit

theorem Own.oc' {U base : Nat} {w w' : World} {v : Value} {s : List UInt8} (h : Own U base w v s) : Oc w w.heap.size v s := h.oc
/-- What a call hands back is the caller's. -/
theorem SpP.up {U : Nat} {w0 w : World} {s : List UInt8} {e : Ending} {w' : World} (h : SpP U w s e w') (h0 : Only (fun _ => False) w0 w) : SpP U w0 s e w' := by
  obtain ⟨v, he, ho, hw⟩ := h
  exact ⟨v, he, ho.lower h0.size, h0.trans hw⟩
/-- A slice written out, of octets. -/
theorem own_lit (U : Nat) (w : World) (s : List UInt8) (cs : Array Value) (hcs : cs = (s.map u8v).toArray) (n : Nat) (hn : n = s.length) (hl : s.length ≤ 16) : Own U w.heap.size (w.alloc (.cells cs U)) (.slice (some ⟨w.heap.size, 0, none⟩) n n) s := by
  subst hcs hn
  have := World.ownsRow_lit (e := U) (size := 1) (base := w.heap.size) w (s.map u8v).toArray s.length (Nat.le_refl _) (by unfold maxLen; omega) (by simp)
  simpa [Own] using this

set_option maxRecDepth 100000 in
theorem sp_counted (w : World) (flex null : Bool) (n size : Nat) (hn : n < 2147483647) (hs : size ≤ 8) :
    Calls Tryz.prog 60 #[.bool flex, .bool null, .int .i64 n, .int .i64 size] w (SpP 5 w (cntEnc flex size (if null then none else some n))) := by
  cases flex
  · cases null
    · have c := Lib.hid (sp_fixed w n size (by omega) (by omega) hs)
      go_enter Tryz.func60, Tryz.ntmps60
      go_wp2_with (go_at_call 62; refine c.out.mono ?_; rintro e1 w1 ⟨v1, rfl, ho1, hw1⟩; have HO1 := Lib.hid ho1; have HW1 := Lib.hid hw1; clear ho1 hw1)
      go_ret
      exact ⟨_, rfl, HO1.out, HW1.out⟩
    · have c := Lib.hid (sp_fixed w (-1) size (by omega) (by omega) hs)
      go_enter Tryz.func60, Tryz.ntmps60
      go_wp2_with (go_at_call 62; refine c.out.mono ?_; rintro e1 w1 ⟨v1, rfl, ho1, hw1⟩; have HO1 := Lib.hid ho1; have HW1 := Lib.hid hw1; clear ho1 hw1)
      go_ret
      exact ⟨_, rfl, HO1.out, HW1.out⟩
  · cases null
    · have c0 := sp_uvarint w (n + 1) (by omega)
      have e : ((n + 1 : Nat) : Int) = (n : Int) + 1 := by omega
      rw [e] at c0
      have c := Lib.hid c0
      clear c0
      go_enter Tryz.func60, Tryz.ntmps60
      go_wp2_with (go_at_call 36; refine c.out.mono ?_; rintro e1 w1 ⟨v1, rfl, ho1, hw1⟩; have HO1 := Lib.hid ho1; have HW1 := Lib.hid hw1; clear ho1 hw1)
      go_ret
      exact ⟨_, rfl, HO1.out, HW1.out⟩
    · go_enter Tryz.func60, Tryz.ntmps60
      go_wp2
      go_ret
      exact ⟨_, rfl, own_lit _ _ _ _ rfl _ rfl (by simp [cntEnc]), (Only.refl _ _).alloc _⟩

/-- The function 'part' writes these fields. -/
def PartC (flex : Bool) (fs : List Fld) : Prop := ∀ (w : World) (B : Nat) (v : Value) (ver : Int) (t : Tr) (ts : List Value), B ≤ w.heap.size → FldsC w B fs v → TrC w B t ts → (partB fs ver flex t).length + 16 ≤ lim2 →
  Calls Tryz.prog 18 #[v, .int .i64 ver, .bool flex, .agg ts.toArray] w (SpP 5 w (partB fs ver flex t))
/-- What is written of a value of a kind. -/
def valB (kind : Nat) (sub : List Fld) (null : Bool) (ver : Int) (flex : Bool) (t : Tr) : List UInt8 := if kind = 10 then partB sub ver flex t else scalB kind null flex t

theorem and1 (n : Int) : bits .and .i64 n 1 = n % 2 := by
  have e : ((BitVec.ofInt 64 n &&& BitVec.ofInt 64 1).toNat : Int) = n % 2 := by
    rw [BitVec.toNat_and, show (BitVec.ofInt 64 1).toNat = 1 from rfl, Nat.and_one_is_mod, BitVec.toNat_ofInt]
    omega
  show IntKind.i64.wrap ((BitVec.ofInt 64 n &&& BitVec.ofInt 64 1).toNat : Int) = n % 2
  rw [e, IntKind.wrap_i64]
  omega
theorem dec_kind (kind k : Nat) (h : ¬ kind = k) : ((kind : Int) == (k : Int)) = false := by
  have : ¬ (kind : Int) = (k : Int) := by omega
  simpa using this
theorem scalB_num {kind : Nat} (k0 : ¬ kind = 0) (k7 : ¬ kind = 7) (k8 : ¬ kind = 8) (k9 : ¬ kind = 9) (null flex : Bool) (t : Tr) : scalB kind null flex t = beEnc (wid kind) t.n := by
  unfold scalB
  rw [if_neg k0, if_neg k7, if_neg k8, if_neg k9]
  congr 1
  unfold kPrim wid
  split
  case h_1 => exact absurd rfl k0
  case h_7 => exact absurd rfl k7
  all_goals first | rfl | skip
  rename_i n1 n2 n3 n4 n5 n6 n7
  rw [if_neg n2, if_neg (fun h => h.elim n3 n5), if_neg n4]; rfl
theorem info_u8s : (Tryz.prog.info? 5).map (·.size) = some 1 := by kernel_rfl
theorem wid_le (kind : Nat) : wid kind ≤ 8 := by unfold wid; split; decide; split; decide; split <;> decide
/-! ### the kinds -/

set_option maxRecDepth 100000 in
theorem val_bool (w : World) (B : Nat) (AS : Option Addr) (nS cS : Nat) (null : Bool) (ver : Int) (flex : Bool) (tn : Int) (s : List UInt8) (A1 : Option Addr) (c1 : Nat) (nl : Bool) (A2 : Option Addr) (n2 c2 : Nat) (A3 : Option Addr) (n3 c3 : Nat) (h0 : -9223372036854775808 ≤ tn) (h1 : tn < 9223372036854775808)
    (hB : B ≤ w.heap.size) (hs : Oc w B (.slice A1 s.length c1) s) :
    Calls Tryz.prog 61 #[.int .i64 0, .slice AS nS cS, .bool null, .int .i64 ver, .bool flex, .agg #[.int .i64 tn, .slice A1 s.length c1, .bool nl, .slice A2 n2 c2, .slice A3 n3 c3]] w (SpP 5 w [byteOf (tn % 2)]) := by
  have b1 := and1 tn
  have b2 : tn % 2 % 256 = tn % 2 := by omega
  clear hB hs
  go_enter Tryz.func61, Tryz.ntmps61
  go_wp2
  go_ret
  have hO : ∀ o : Obj, Own 5 w.heap.size ((w.alloc o).alloc (.cells #[.int .u8 (tn % 2)] 5)) (.slice (some ⟨w.heap.size + 1, 0, none⟩) 1 1) [byteOf (tn % 2)] := fun o => by
    have := (own_lit 5 (w.alloc o) [byteOf (tn % 2)] #[.int .u8 (tn % 2)] (by simp [u8v_byteOf, b2]) 1 rfl (Nat.le_of_ble_eq_true rfl)).lower (base' := w.heap.size) (by simp)
    simpa using this
  exact ⟨_, rfl, hO _, ((Only.refl _ _).alloc _).alloc _⟩

theorem made16 : madeCells (Value.int .u8 0).cells 16 = (List.replicate 16 (Value.int .u8 0)).toArray := by kernel_rfl
theorem uuid_cells_n (n : Nat) (s : List UInt8) : ((s.take n ++ List.replicate (n - s.length) 0).map u8v) = splice (List.replicate n (Value.int .u8 0)) 0 ((s.take n).map u8v) := by
  unfold splice
  have e : u8v 0 = .int .u8 0 := rfl
  simp [e, List.drop_replicate]
  omega
theorem run_make16 (w : World) : (Instr.makeSlice 22 (.int .i64 16) (.int .i64 16)).run Tryz.prog w = .ok (.slice (some ⟨w.heap.size, 0, none⟩) 16 16) (w.alloc (.cells (List.replicate 16 (Value.int .u8 0)).toArray 5)) := by
  obtain ⟨i0, hi, hz0, hz1, hz2⟩ := info_u8
  have := run_make (P := Tryz.prog) w 22 5 i0 (.int .u8 0) Tryz.underlying22 hi hz0 .i64 .i64 16 16 (by decide) (by decide) (by rw [hz2]; decide) (by decide)
  rw [hz1] at this
  rw [this]
  show Result.ok _ (w.alloc (.cells (madeCells (Value.int .u8 0).cells 16) _)) = _
  rw [made16]; rfl
set_option maxRecDepth 100000 in
theorem val_uuid (w : World) (B : Nat) (AS : Option Addr) (nS cS : Nat) (null : Bool) (ver : Int) (flex : Bool) (tn : Int) (s : List UInt8) (A1 : Option Addr) (c1 : Nat) (nl : Bool) (A2 : Option Addr) (n2 c2 : Nat) (A3 : Option Addr) (n3 c3 : Nat) (h0 : -9223372036854775808 ≤ tn) (h1 : tn < 9223372036854775808)
    (hB : B ≤ w.heap.size) (hs : Oc w B (.slice A1 s.length c1) s) :
    Calls Tryz.prog 61 #[.int .i64 7, .slice AS nS cS, .bool null, .int .i64 ver, .bool flex, .agg #[.int .i64 tn, .slice A1 s.length c1, .bool nl, .slice A2 n2 c2, .slice A3 n3 c3]] w (SpP 5 w (s.take 16 ++ List.replicate (16 - s.length) 0)) := by
  have HB := Lib.hid hB
  have HS := Lib.hid hs
  have hmk := run_make16
  clear hB hs h0 h1
  go_enter Tryz.func61, Tryz.ntmps61
  go_wp2_with (first
    | (refine wpList_copy_splice rfl _ _ _ _ rfl 5 Tryz.underlying22 info_u8s _ _ _ _ _ _ rfl rfl (w.heap.size + 1) 0 (List.replicate 16 (.int .u8 0)) 5 ?_ ((s.take 16).map u8v) ?_ ?_ ?_ ?_ w.heap.size w ?_ (Nat.le_succ _) ?_; rotate_left; rotate_left; rotate_left; rotate_left; rotate_left; rotate_left; intro w3 hw3 hb3; have HB3 := Lib.hid hb3; clear hb3)
    | fail)
  · go_ret
    refine ⟨.slice (some ⟨w.heap.size + 1, 0, none⟩) 16 16, rfl, ?_, HB3.out.os, HB3.out.tape, HB3.out.output, HB3.out.size, fun k hk _ => HB3.out.block k hk⟩
    have hl : (s.take 16 ++ List.replicate (16 - s.length) 0).length = 16 := by simp; omega
    have hw := hw3.out
    rw [← uuid_cells_n] at hw
    refine ⟨by rw [List.length_map, Nat.mul_one], .inr ⟨w.heap.size + 1, 16, _, by rw [hl], by omega, hw, by rw [hl]; exact Nat.le_refl _, by unfold maxLen; decide, by simp; omega, ?_⟩⟩
    rw [hl]
    exact List.take_of_length_le (by simp; omega)
  · exact heap_alloc2_new _ _ _
  · show ((s.take 16).map u8v).length = Nat.min s.length 16
    rw [List.length_map, List.length_take]
    exact Nat.min_comm _ _
  · intro hp
    first | refine ⟨rfl, ?_⟩ | skip
    have hp' : s ≠ [] := by intro e; subst e; simp at hp
    rcases HS.out with ⟨_, h0⟩ | ⟨a, c, hv, hc, hcell⟩
    · exact absurd h0 hp'
    · simp only [Value.slice.injEq] at hv
      obtain ⟨rfl, _, _⟩ := hv
      refine ⟨a, rfl, fun j v hj => ?_⟩
      simp only [List.getElem?_map, List.getElem?_take] at hj
      split at hj
      · cases hb : s[j]? with
        | none => rw [hb] at hj; cases hj
        | some b =>
          rw [hb] at hj
          simp at hj
          subst hj
          have hk := hcell j b hb
          exact (World.cell?_alloc_lt _ _ _ (by rw [add_block]; have := HB.out; simp; omega)).trans ((World.cell?_alloc_lt _ _ _ (by rw [add_block]; have := HB.out; omega)).trans hk.2)
      · cases hj
  · simp; omega
  · intro v hv
    simp only [List.mem_map] at hv
    obtain ⟨b, _, rfl⟩ := hv
    rfl
  · exact ((Below.refl _ _).alloc (Nat.le_refl _) _).alloc (by simp) _

set_option maxRecDepth 100000 in
theorem val_text (w : World) (B : Nat) (AS : Option Addr) (nS cS : Nat) (null : Bool) (ver : Int) (flex : Bool) (tn : Int) (s : List UInt8) (A1 : Option Addr) (c1 : Nat) (nl : Bool) (A2 : Option Addr) (n2 c2 : Nat) (A3 : Option Addr) (n3 c3 : Nat) (h0 : -9223372036854775808 ≤ tn) (h1 : tn < 9223372036854775808)
    (hB : B ≤ w.heap.size) (hs : Oc w B (.slice A1 s.length c1) s) (hl : (cntEnc flex 2 (if null then none else some (s.take most).length) ++ (if null then [] else s.take most)).length + 16 ≤ lim2) :
    Calls Tryz.prog 61 #[.int .i64 8, .slice AS nS cS, .bool null, .int .i64 ver, .bool flex, .agg #[.int .i64 tn, .slice A1 s.length c1, .bool nl, .slice A2 n2 c2, .slice A3 n3 c3]] w (SpP 5 w (cntEnc flex 2 (if null then none else some (s.take most).length) ++ (if null then [] else s.take most))) := by
  obtain ⟨i0, hi, hz0, hz1, hz2⟩ := info_u8
  have HL := Lib.hid hl
  have HB := Lib.hid hB
  have HSs := Lib.hid hs
  clear hB hs h0 h1 hl
  have hm : (s.take most).length ≤ 32767 := by rw [List.length_take]; exact Nat.min_le_left _ _
  obtain ⟨s', hs'⟩ : ∃ s', s.take most = s' := ⟨_, rfl⟩
  rw [hs'] at HL hm ⊢
  have HS' := Lib.hid hs'
  clear hs'
  cases null
  · go_enter Tryz.func61, Tryz.ntmps61
    go_wp2_with (first
      | (go_at_call 38; refine (sp_whole _ B _ s ?_).mono ?_; (exact HSs.out.keep (((Only.refl _ _).alloc _ : Only (fun _ => False) _ _).kept0 HB.out)); rintro e1 w1 ⟨v1, rfl, hv1, hw1⟩; have O1 := Lib.hid (show Only (fun _ => False) w w1 by rw [hw1]; exact (Only.refl _ _).alloc _); rw [← hw1, HS'.out] at hv1; clear hw1; obtain ⟨Av, cv, rfl, _⟩ := hv1.sl; have HV0 := Lib.hid hv1; clear hv1)
      | (go_at_call 60; refine (sp_counted _ flex false s'.length 2 ?_ (by decide)).mono ?_; (omega); rintro e2 w2 ⟨v2, rfl, ho2, hw2⟩; have O2 := Lib.hid (O1.out.trans hw2); have HO2 := Lib.hid (ho2.lower O1.out.size); have HV := Lib.hid (HV0.out.keep (hw2.kept0 (Nat.le_trans HB.out O1.out.size))); clear ho2 hw2)
      | (at_builtin; refine wp_app_oc rfl _ _ 22 rfl Tryz.underlying22 hi hz0 hz1 hz2 rfl HO2.out (s := s') rfl (HV.out) O2.out.size ?_ ?_; rotate_left; intro v3 w3 ho3 hw3; have O3 := Lib.hid (O2.out.own hw3 (Nat.le_refl _)); have HO3 := Lib.hid ho3; clear ho3 hw3))
    · go_ret
      exact ⟨_, rfl, HO3.out, O3.out⟩
    · have := HL.out
      simp only [List.length_append] at this ⊢
      first | omega | (simp at this ⊢; omega)
  · go_enter Tryz.func61, Tryz.ntmps61
    go_wp2_with (first
      | (go_at_call 38; refine (sp_whole _ B _ s ?_).mono ?_; (exact HSs.out.keep (((Only.refl _ _).alloc _ : Only (fun _ => False) _ _).kept0 HB.out)); rintro e1 w1 ⟨v1, rfl, hv1, hw1⟩; have O1 := Lib.hid (show Only (fun _ => False) w w1 by rw [hw1]; exact (Only.refl _ _).alloc _); rw [← hw1, HS'.out] at hv1; clear hw1; obtain ⟨Av, cv, rfl, _⟩ := hv1.sl; have HV0 := Lib.hid hv1; clear hv1)
      | (go_at_call 60; refine (sp_counted _ flex true 0 2 ?_ (by decide)).mono ?_; (omega); rintro e2 w2 ⟨v2, rfl, ho2, hw2⟩; have O2 := Lib.hid (O1.out.trans hw2); have HO2 := Lib.hid (ho2.lower O1.out.size); have HV := Lib.hid (HV0.out.keep (hw2.kept0 (Nat.le_trans HB.out O1.out.size))); clear ho2 hw2)
      | (at_builtin; refine wp_app_oc rfl _ _ 22 rfl Tryz.underlying22 hi hz0 hz1 hz2 rfl HO2.out (s := []) rfl (Oc.nil w2 0) O2.out.size ?_ ?_; rotate_left; intro v3 w3 ho3 hw3; have O3 := Lib.hid (O2.out.own hw3 (Nat.le_refl _)); have HO3 := Lib.hid ho3; clear ho3 hw3))
    · go_ret
      exact ⟨_, rfl, HO3.out, O3.out⟩
    · have := HL.out
      simp only [List.length_append] at this ⊢
      first | omega | (simp at this ⊢; omega)

set_option maxRecDepth 100000 in
theorem val_octets (w : World) (B : Nat) (AS : Option Addr) (nS cS : Nat) (null : Bool) (ver : Int) (flex : Bool) (tn : Int) (s : List UInt8) (A1 : Option Addr) (c1 : Nat) (nl : Bool) (A2 : Option Addr) (n2 c2 : Nat) (A3 : Option Addr) (n3 c3 : Nat) (h0 : -9223372036854775808 ≤ tn) (h1 : tn < 9223372036854775808)
    (hB : B ≤ w.heap.size) (hs : Oc w B (.slice A1 s.length c1) s) (hl : (cntEnc flex 4 (if null then none else some (s.take most).length) ++ (if null then [] else s.take most)).length + 16 ≤ lim2) :
    Calls Tryz.prog 61 #[.int .i64 9, .slice AS nS cS, .bool null, .int .i64 ver, .bool flex, .agg #[.int .i64 tn, .slice A1 s.length c1, .bool nl, .slice A2 n2 c2, .slice A3 n3 c3]] w (SpP 5 w (cntEnc flex 4 (if null then none else some (s.take most).length) ++ (if null then [] else s.take most))) := by
  obtain ⟨i0, hi, hz0, hz1, hz2⟩ := info_u8
  have HL := Lib.hid hl
  have HB := Lib.hid hB
  have HSs := Lib.hid hs
  clear hB hs h0 h1 hl
  have hm : (s.take most).length ≤ 32767 := by rw [List.length_take]; exact Nat.min_le_left _ _
  obtain ⟨s', hs'⟩ : ∃ s', s.take most = s' := ⟨_, rfl⟩
  rw [hs'] at HL hm ⊢
  have HS' := Lib.hid hs'
  clear hs'
  cases null
  · go_enter Tryz.func61, Tryz.ntmps61
    go_wp2_with (first
      | (go_at_call 38; refine (sp_whole _ B _ s ?_).mono ?_; (exact HSs.out.keep (((Only.refl _ _).alloc _ : Only (fun _ => False) _ _).kept0 HB.out)); rintro e1 w1 ⟨v1, rfl, hv1, hw1⟩; have O1 := Lib.hid (show Only (fun _ => False) w w1 by rw [hw1]; exact (Only.refl _ _).alloc _); rw [← hw1, HS'.out] at hv1; clear hw1; obtain ⟨Av, cv, rfl, _⟩ := hv1.sl; have HV0 := Lib.hid hv1; clear hv1)
      | (go_at_call 60; refine (sp_counted _ flex false s'.length 4 ?_ (by decide)).mono ?_; (omega); rintro e2 w2 ⟨v2, rfl, ho2, hw2⟩; have O2 := Lib.hid (O1.out.trans hw2); have HO2 := Lib.hid (ho2.lower O1.out.size); have HV := Lib.hid (HV0.out.keep (hw2.kept0 (Nat.le_trans HB.out O1.out.size))); clear ho2 hw2)
      | (at_builtin; refine wp_app_oc rfl _ _ 22 rfl Tryz.underlying22 hi hz0 hz1 hz2 rfl HO2.out (s := s') rfl (HV.out) O2.out.size ?_ ?_; rotate_left; intro v3 w3 ho3 hw3; have O3 := Lib.hid (O2.out.own hw3 (Nat.le_refl _)); have HO3 := Lib.hid ho3; clear ho3 hw3))
    · go_ret
      exact ⟨_, rfl, HO3.out, O3.out⟩
    · have := HL.out
      simp only [List.length_append] at this ⊢
      first | omega | (simp at this ⊢; omega)
  · go_enter Tryz.func61, Tryz.ntmps61
    go_wp2_with (first
      | (go_at_call 38; refine (sp_whole _ B _ s ?_).mono ?_; (exact HSs.out.keep (((Only.refl _ _).alloc _ : Only (fun _ => False) _ _).kept0 HB.out)); rintro e1 w1 ⟨v1, rfl, hv1, hw1⟩; have O1 := Lib.hid (show Only (fun _ => False) w w1 by rw [hw1]; exact (Only.refl _ _).alloc _); rw [← hw1, HS'.out] at hv1; clear hw1; obtain ⟨Av, cv, rfl, _⟩ := hv1.sl; have HV0 := Lib.hid hv1; clear hv1)
      | (go_at_call 60; refine (sp_counted _ flex true 0 4 ?_ (by decide)).mono ?_; (omega); rintro e2 w2 ⟨v2, rfl, ho2, hw2⟩; have O2 := Lib.hid (O1.out.trans hw2); have HO2 := Lib.hid (ho2.lower O1.out.size); have HV := Lib.hid (HV0.out.keep (hw2.kept0 (Nat.le_trans HB.out O1.out.size))); clear ho2 hw2)
      | (at_builtin; refine wp_app_oc rfl _ _ 22 rfl Tryz.underlying22 hi hz0 hz1 hz2 rfl HO2.out (s := []) rfl (Oc.nil w2 0) O2.out.size ?_ ?_; rotate_left; intro v3 w3 ho3 hw3; have O3 := Lib.hid (O2.out.own hw3 (Nat.le_refl _)); have HO3 := Lib.hid ho3; clear ho3 hw3))
    · go_ret
      exact ⟨_, rfl, HO3.out, O3.out⟩
    · have := HL.out
      simp only [List.length_append] at this ⊢
      first | omega | (simp at this ⊢; omega)

set_option maxRecDepth 100000 in
theorem val_num (w : World) (B : Nat) (kind : Nat) (AS : Option Addr) (nS cS : Nat) (null : Bool) (ver : Int) (flex : Bool) (tn : Int) (s : List UInt8) (A1 : Option Addr) (c1 : Nat) (nl : Bool) (A2 : Option Addr) (n2 c2 : Nat) (A3 : Option Addr) (n3 c3 : Nat) (h0 : -9223372036854775808 ≤ tn) (h1 : tn < 9223372036854775808)
    (hB : B ≤ w.heap.size) (hs : Oc w B (.slice A1 s.length c1) s) (k0 : ¬ kind = 0) (k7 : ¬ kind = 7) (k8 : ¬ kind = 8) (k9 : ¬ kind = 9) (k10 : ¬ kind = 10) :
    Calls Tryz.prog 61 #[.int .i64 kind, .slice AS nS cS, .bool null, .int .i64 ver, .bool flex, .agg #[.int .i64 tn, .slice A1 s.length c1, .bool nl, .slice A2 n2 c2, .slice A3 n3 c3]] w (SpP 5 w (beEnc (wid kind) tn)) := by
  have z0 := dec_kind kind 0 k0
  have z7 := dec_kind kind 7 k7
  have z8 := dec_kind kind 8 k8
  have z9 := dec_kind kind 9 k9
  have z10 := dec_kind kind 10 k10
  have cW := Lib.hid (fun w' => sp_width w' kind)
  have cF := Lib.hid (fun w' => sp_fixed w' tn (wid kind) h0 h1 (wid_le kind))
  clear h0 h1 k0 k7 k8 k9 k10 hB hs
  go_enter Tryz.func61, Tryz.ntmps61
  go_wp2_with fail
  go_region_with (first
    | (go_at_call 63; refine (cW.out _).mono ?_; rintro e1 w1 ⟨rfl, rfl⟩)
    | (go_at_call 62; refine (cF.out _).mono ?_; rintro e2 w2 h2; have H2 := Lib.hid (h2.up (((Only.refl _ _).alloc _).drew : Only (fun _ => False) w _)); clear h2; obtain ⟨v2, rfl, h2⟩ := H2.out; clear h2))
  all_goals go_wp2
  all_goals go_ret
  all_goals exact H2.out

set_option maxRecDepth 100000 in
theorem val_part (w : World) (B : Nat) (sub : List Fld) (AS : Option Addr) (nS cS : Nat) (null : Bool) (ver : Int) (flex : Bool) (t : Tr) (ts : List Value) (hB : B ≤ w.heap.size) (hS : FldsC w B sub (.slice AS nS cS)) (ht : TrC w B t ts)
    (hp : PartC flex sub) (hl : (partB sub ver flex t).length + 16 ≤ lim2) :
    Calls Tryz.prog 61 #[.int .i64 10, .slice AS nS cS, .bool null, .int .i64 ver, .bool flex, .agg ts.toArray] w (SpP 5 w (partB sub ver flex t)) := by
  have HB := Lib.hid hB
  have HS := Lib.hid hS
  have HT := Lib.hid ht
  have HL := Lib.hid hl
  have HP := Lib.hid hp
  obtain ⟨tn, A1, n1, c1, tb, A2, n2, c2, A3, n3, c3, rfl⟩ := ht.form
  clear hB hS hl ht hp
  go_enter Tryz.func61, Tryz.ntmps61
  go_wp2_with (go_at_call 18; refine (HP.out _ B _ ver t _ ?_ ?_ ?_ HL.out).mono ?_; (exact Nat.le_trans HB.out (by simp)); (exact HS.out.keep (((Only.refl _ _).alloc _ : Only (fun _ => False) _ _).kept0 HB.out)); (exact HT.out.keep (((Only.refl _ _).alloc _ : Only (fun _ => False) _ _).kept0 HB.out)); rintro e1 w1 h1; have H1 := Lib.hid (h1.up ((Only.refl _ _).alloc _ : Only (fun _ => False) w _)); clear h1; obtain ⟨v1, rfl, h1⟩ := H1.out; clear h1)
  go_ret
  exact H1.out

theorem sp_value (w : World) (B : Nat) (kind : Nat) (sub : List Fld) (sv : Value) (null : Bool) (ver : Int) (flex : Bool) (t : Tr) (ts : List Value) (hB : B ≤ w.heap.size) (hS : FldsC w B sub sv) (ht : TrC w B t ts)
    (hp : kind = 10 → PartC flex sub) (hl : (valB kind sub null ver flex t).length + 16 ≤ lim2) :
    Calls Tryz.prog 61 #[.int .i64 kind, sv, .bool null, .int .i64 ver, .bool flex, .agg ts.toArray] w (SpP 5 w (valB kind sub null ver flex t)) := by
  obtain ⟨fS, hsl, _⟩ := id hS
  obtain ⟨AS, cS, rfl, _⟩ := hsl.sl
  by_cases k10 : kind = 10
  · subst k10
    exact val_part w B sub AS _ cS null ver flex t ts hB hS ht (hp rfl) hl
  have hV : valB kind sub null ver flex t = scalB kind null flex t := if_neg k10
  rw [hV] at hl ⊢
  cases ht with
  | @mk tn s nl l u vs vl vu fl fu h0 h1 hs hL' hL hu hU =>
  obtain ⟨A1, c1, rfl, hc1⟩ := hs.sl
  obtain ⟨A2, c2, rfl, _⟩ := hL'.sl
  obtain ⟨A3, c3, rfl, _⟩ := hu.sl
  by_cases k0 : kind = 0
  · subst k0
    have e : scalB 0 null flex (Tr.mk tn s nl l u) = [byteOf (tn % 2)] := by simp [scalB, beEnc, Tr.n]
    rw [e]
    exact val_bool w B AS _ cS null ver flex tn s A1 c1 nl A2 _ c2 A3 _ c3 h0 h1 hB hs
  by_cases k7 : kind = 7
  · subst k7
    exact val_uuid w B AS _ cS null ver flex tn s A1 c1 nl A2 _ c2 A3 _ c3 h0 h1 hB hs
  by_cases k8 : kind = 8
  · subst k8
    exact val_text w B AS _ cS null ver flex tn s A1 c1 nl A2 _ c2 A3 _ c3 h0 h1 hB hs hl
  by_cases k9 : kind = 9
  · subst k9
    exact val_octets w B AS _ cS null ver flex tn s A1 c1 nl A2 _ c2 A3 _ c3 h0 h1 hB hs hl
  rw [scalB_num k0 k7 k8 k9]
  exact val_num w B kind AS _ cS null ver flex tn s A1 c1 nl A2 _ c2 A3 _ c3 h0 h1 hB hs k0 k7 k8 k9 k10
end Go.Proofs.YtpefipjgcpchaaaGreatDoorR.Kf

namespace Go.Proofs.YtpefipjgcpchaaaGreatDoorR.Kf
set_option linter.unusedVariables false
set_option linter.unusedSimpArgs false
open Go Go.RowKit

/-- The cells of a box that the call made, later. -/
theorem boxA {w w1 : World} {A C : Array Value} {e f : Nat} (h : Only (fun _ => False) ((w.alloc (.cells A e)).alloc (.cells C f)) w1) (i : Nat) {v : Value} (hv : A[i]? = some v) : w1.cell? ⟨w.heap.size, i, none⟩ = some v := by
  have hb : w1.heap[w.heap.size]? = some (.cells A e) := by
    rw [h.block _ (by simp; omega) id, heap_alloc_old (h := by simp), heap_alloc_new]
  simp [World.cell?, hb, hv]
theorem boxC {w w1 : World} {A C : Array Value} {e f : Nat} (h : Only (fun _ => False) ((w.alloc (.cells A e)).alloc (.cells C f)) w1) (i : Nat) {v : Value} (hv : C[i]? = some v) : w1.cell? ⟨w.heap.size + 1, i, none⟩ = some v := by
  have hb : w1.heap[w.heap.size + 1]? = some (.cells C f) := by
    rw [h.block _ (by simp) id, heap_alloc2_new]
  simp [World.cell?, hb, hv]
theorem Only.first2 {w w1 : World} {a b : Obj} (h : Only (fun _ => False) ((w.alloc a).alloc b) w1) : Only (fun _ => False) w w1 := ((((Only.refl _ _).alloc _).alloc _ : Only (fun _ => False) w _)).trans h

theorem flat_take {α : Type} (f : α → List UInt8) (l : List α) (k : Nat) (h : k < l.length) : ((l.take (k + 1)).map f).flatten = ((l.take k).map f).flatten ++ f l[k] := by
  rw [List.take_succ_eq_append_getElem h, List.map_append, List.flatten_append]
  simp
theorem flat_le {α : Type} (f : α → List UInt8) (l : List α) (k : Nat) : ((l.take k).map f).flatten.length ≤ ((l.map f).flatten).length := by
  have : (l.map f).flatten = ((l.take k).map f).flatten ++ ((l.drop k).map f).flatten := by
    rw [← List.flatten_append, ← List.map_append, List.take_append_drop]
  rw [this, List.length_append]; omega

theorem Kept.via {B : Nat} {w a b : World} (h : Kept B w a) (k : Kept B w b) : Kept B a b := fun i hi => (k i hi).trans (h i hi).symm
/-- What the loop over a list reads of the field's own box. -/
def FBox (w wr : World) (of : Nat) (v : Value) : Prop := w.heap.size + 2 ≤ wr.heap.size ∧ wr.cell? ⟨w.heap.size, 6, none⟩ = some (.int .i64 of) ∧ wr.cell? ⟨w.heap.size, 7, none⟩ = some v
theorem FBox.keep {w wr w' : World} {of : Nat} {v : Value} (h : FBox w wr of v) (ho : Only (fun j => w.heap.size + 2 ≤ j) wr w') : FBox w w' of v := by
  obtain ⟨h0, h1, h2⟩ := h
  have hk : w'.heap[w.heap.size]? = wr.heap[w.heap.size]? := ho.block _ (by omega) (by omega)
  exact ⟨Nat.le_trans h0 ho.size, (cell_kept (a := ⟨w.heap.size, 6, none⟩) hk).trans h1, (cell_kept (a := ⟨w.heap.size, 7, none⟩) hk).trans h2⟩
theorem Only.lift {w w' : World} {B : Nat} (h : Only (fun _ => False) w w') : Only (fun j => B ≤ j) w w' := h.mono fun _ _ h => h.elim
theorem Only.ownAt {w0 w w' : World} {B : Nat} (h0 : Only (fun _ => False) w0 w) (h : Only (fun j => B ≤ j) w w') (hB : w0.heap.size ≤ B) : Only (fun _ => False) w0 w' := h0.own h hB
theorem TrsC.at_ {w : World} {B : Nat} {l : List Tr} {A : Option Addr} {n c k : Nat} (h : TrsC w B l (.slice A n c)) (hk : k < l.length) :
    ∃ b o m A1 n1 c1 nl A2 n2 c2 A3 n3 c3, A = some ⟨b, o, none⟩ ∧ n = l.length ∧ b < B ∧ TrC w B l[k] [.int .i64 m, .slice A1 n1 c1, .bool nl, .slice A2 n2 c2, .slice A3 n3 c3] ∧
      w.cell? ⟨b, o + k * 5, none⟩ = some (.int .i64 m) ∧ w.cell? ⟨b, o + k * 5 + 1, none⟩ = some (.slice A1 n1 c1) ∧ w.cell? ⟨b, o + k * 5 + 2, none⟩ = some (.bool nl) ∧ w.cell? ⟨b, o + k * 5 + 3, none⟩ = some (.slice A2 n2 c2) ∧
      w.cell? ⟨b, o + k * 5 + 4, none⟩ = some (.slice A3 n3 c3) := by
  obtain ⟨f, hs, hT⟩ := h
  have hn : n = l.length := by obtain ⟨A', c', e, _⟩ := hs.sl; injection e
  obtain ⟨b, o, c', e, hc, hb, hlen, hcell⟩ := hs.lit (by decide) hk
  injection e with e1 e2 e3
  have ht := hT k _ (List.getElem?_eq_getElem hk)
  generalize f k = cs at ht hcell
  obtain ⟨m, A1, n1, c1, nl, A2, n2, c2, A3, n3, c3, rfl⟩ := ht.form
  exact ⟨b, o, m, A1, n1, c1, nl, A2, n2, c2, A3, n3, c3, e1, hn, hb, ht, hcell 0 _ rfl, hcell 1 _ rfl, hcell 2 _ rfl, hcell 3 _ rfl, hcell 4 _ rfl⟩

/-- What the loop's round reads: the field's box, the thing. -/
theorem keep7 {wr w' : World} {b0 p b o : Nat} {x6 x7 y0 y1 y2 y3 y4 : Value} (ho : Only (fun j => b0 ≤ j) wr w') (hs : b0 ≤ wr.heap.size) (hp : p < b0) (hb : b < b0)
    (h : wr.cell? ⟨p, 6, none⟩ = some x6 ∧ wr.cell? ⟨p, 7, none⟩ = some x7 ∧ wr.cell? ⟨b, o, none⟩ = some y0 ∧ wr.cell? ⟨b, o + 1, none⟩ = some y1 ∧ wr.cell? ⟨b, o + 2, none⟩ = some y2 ∧ wr.cell? ⟨b, o + 3, none⟩ = some y3 ∧ wr.cell? ⟨b, o + 4, none⟩ = some y4) :
    w'.cell? ⟨p, 6, none⟩ = some x6 ∧ w'.cell? ⟨p, 7, none⟩ = some x7 ∧ w'.cell? ⟨b, o, none⟩ = some y0 ∧ w'.cell? ⟨b, o + 1, none⟩ = some y1 ∧ w'.cell? ⟨b, o + 2, none⟩ = some y2 ∧ w'.cell? ⟨b, o + 3, none⟩ = some y3 ∧ w'.cell? ⟨b, o + 4, none⟩ = some y4 := by
  have hp' : w'.heap[p]? = wr.heap[p]? := ho.block _ (by omega) (by omega)
  have hb' : w'.heap[b]? = wr.heap[b]? := ho.block _ (by omega) (by omega)
  obtain ⟨h1, h2, h3, h4, h5, h6, h7⟩ := h
  exact ⟨(cell_kept (a := ⟨p, _, none⟩) hp').trans h1, (cell_kept (a := ⟨p, _, none⟩) hp').trans h2, (cell_kept (a := ⟨b, _, none⟩) hb').trans h3, (cell_kept (a := ⟨b, _, none⟩) hb').trans h4, (cell_kept (a := ⟨b, _, none⟩) hb').trans h5, (cell_kept (a := ⟨b, _, none⟩) hb').trans h6, (cell_kept (a := ⟨b, _, none⟩) hb').trans h7⟩

/-- What is written of a list's things. -/
def listB (of : Nat) (sub : List Fld) (null : Bool) (ver : Int) (flex : Bool) (l : List Tr) : List UInt8 :=
  cntEnc flex 4 (if null then none else some l.length) ++ (if null then [] else (l.map (valB of sub false ver flex)).flatten)
theorem listB_eq {kind : Nat} {fr to nu tag df : Int} {of : Nat} {sub : List Fld} (hk : kind = 11) (ver : Int) (flex : Bool) (t : Tr) :
    fieldB (.mk kind fr to nu tag df of sub) ver flex t = listB of sub (t.nl && mayN nu ver) ver flex (t.l.take most) := by
  simp only [fieldB, if_pos hk, listB]
  cases hn : (t.nl && mayN nu ver)
  · simp only [Bool.false_eq_true, if_false]
    congr 2
    all_goals
      apply List.map_congr_left
      intro x _
      unfold valB partB
      by_cases h10 : of = 10
      · simp only [if_pos h10]
      · simp only [if_neg h10]
  · rfl

set_option maxRecDepth 100000 in
theorem field_list (w : World) (B : Nat) (fr to nu tag df : Int) (of : Nat) (sub : List Fld) (AS : Option Addr) (nS cS : Nat) (ver : Int) (flex : Bool) (n : Int) (A1 : Option Addr) (n1 c1 : Nat) (nl : Bool) (A2 : Option Addr) (n2 c2 : Nat) (A3 : Option Addr) (n3 c3 : Nat) (null : Bool) (l : List Tr)
    (hB : B ≤ w.heap.size) (hF : FldsC w B sub (.slice AS nS cS)) (hL : TrsC w B l (.slice A2 n2 c2)) (hp : of = 10 → l ≠ [] → PartC flex sub)
    (hN : ∀ w', Kept B w w' → Calls Tryz.prog 58 #[.agg #[.int .i64 11, .int .i64 fr, .int .i64 to, .int .i64 nu, .int .i64 tag, .int .i64 df, .int .i64 of, .slice AS nS cS], .int .i64 ver, .agg #[.int .i64 n, .slice A1 n1 c1, .bool nl, .slice A2 n2 c2, .slice A3 n3 c3]] w' fun e w'' => e = .returned (.bool null) ∧ Only (fun _ => False) w' w'')
    (hl : (listB of sub null ver flex (l.take most)).length + 16 ≤ lim2) :
    Calls Tryz.prog 32 #[.agg #[.int .i64 11, .int .i64 fr, .int .i64 to, .int .i64 nu, .int .i64 tag, .int .i64 df, .int .i64 of, .slice AS nS cS], .int .i64 ver, .bool flex, .agg #[.int .i64 n, .slice A1 n1 c1, .bool nl, .slice A2 n2 c2, .slice A3 n3 c3]] w
      (SpP 5 w (listB of sub null ver flex (l.take most))) := by
  obtain ⟨i0, hi, hz0, hz1, hz2⟩ := info_u8
  have HB := Lib.hid hB
  have HF := Lib.hid hF
  have HLl := Lib.hid hL
  have HP := Lib.hid hp
  have HN := Lib.hid hN
  have hm : (l.take most).length ≤ 32767 := by rw [List.length_take]; exact Nat.min_le_left _ _
  obtain ⟨l', hl'⟩ : ∃ l', l.take most = l' := ⟨_, rfl⟩
  rw [hl'] at hl hm ⊢
  have HL' := Lib.hid hl'
  have HL := Lib.hid hl
  clear hB hF hL hp hN hl hl'
  cases null
  · go_enter Tryz.func32, Tryz.ntmps32
    go_wp2_with (first
      | (go_at_call 58; refine (HN.out _ ?_).mono ?_; (exact (((Only.refl _ _).alloc _).alloc _ : Only (fun _ => False) w _).kept0 HB.out); rintro e1 w1 ⟨rfl, hw1⟩; have O1 := Lib.hid hw1.first2; have f40 := boxA hw1 0 rfl; have f46 := boxA hw1 6 rfl; have f47 := boxA hw1 7 rfl; have f73 := boxC hw1 3 rfl; have W1 := Lib.hid hw1; clear hw1)
      | (go_at_call 59; refine (sp_things _ B _ l ?_).mono ?_; (exact HLl.out.keep (O1.out.kept0 HB.out)); rintro e2 w2 ⟨v2, rfl, hv2, rfl⟩; rw [HL'.out] at hv2; have HT := Lib.hid hv2; obtain ⟨fT, hsl, hT⟩ := hv2; clear hT; obtain ⟨AT, cT, rfl, _⟩ := hsl.sl; clear hsl)
      | (go_at_call 60; refine (sp_counted _ flex false l'.length 4 ?_ (by decide)).mono ?_; (omega); rintro e3 w3 ⟨v3, rfl, ho3, hw3⟩; have O3 := Lib.hid (O1.out.trans hw3); have HO3 := Lib.hid ho3; have W3 := Lib.hid (W1.out.trans hw3); clear ho3 hw3))
    go_loopw [11, 31] (fun v i wr => ∃ k : Nat, k ≤ l'.length ∧ i = .int .i64 k ∧ Own 5 (w.heap.size + 2) wr v (cntEnc flex 4 (some l'.length) ++ ((l'.take k).map (valB of sub false ver flex)).flatten) ∧ Only (fun _ => False) w wr ∧ FBox w wr of (.slice AS nS cS))
      (fun _ i _ => l'.length - (intOf i).toNat)
    case atStart =>
      have hs2 : w.heap.size + 2 ≤ w3.heap.size := by have := W3.out.size; simpa using this
      exact ⟨0, Nat.zero_le _, rfl, by simpa using HO3.out.lower (by have := W1.out.size; simpa using this), O3.out, hs2, boxA W3.out 6 rfl, boxA W3.out 7 rfl⟩
    case round =>
      obtain ⟨k, hk, rfl, hown, honly, hbox⟩ := hrel
      have HO := Lib.hid hown
      have HW := Lib.hid honly
      have HBX := Lib.hid hbox
      clear hown honly f40 f46 f47 f73 HO3 O3 W3
      by_cases hlt : k < l'.length
      · have hTr := HT.out.keep ((O1.out.kept0 HB.out).via (HW.out.kept0 HB.out))
        obtain ⟨b, o, m', B1, m1, d1, nl', B2, m2, d2, B3, m3, d3, rfl, _, hbB, hT1, e0, e1, e2, e3, e4⟩ := hTr.at_ hlt
        have HT1 := Lib.hid hT1
        have hbox' := hbox
        obtain ⟨_, g6, g7⟩ := hbox'
        have hlt' : (k : Int) < (l'.length : Int) := by omega
        have hb' : b < wr.heap.size := by have := HB.out; have := HW.out.size; omega
        clear hTr hT1
        have hS : wr.cell? ⟨w.heap.size, 6, none⟩ = some (.int .i64 of) ∧ wr.cell? ⟨w.heap.size, 7, none⟩ = some (.slice AS nS cS) ∧ wr.cell? ⟨b, o + k * 5, none⟩ = some (.int .i64 m') ∧ wr.cell? ⟨b, o + k * 5 + 1, none⟩ = some (.slice B1 m1 d1) ∧ wr.cell? ⟨b, o + k * 5 + 2, none⟩ = some (.bool nl') ∧ wr.cell? ⟨b, o + k * 5 + 3, none⟩ = some (.slice B2 m2 d2) ∧ wr.cell? ⟨b, o + k * 5 + 4, none⟩ = some (.slice B3 m3 d3) := ⟨g6, g7, e0, e1, e2, e3, e4⟩
        have HS0 := Lib.hid hS
        have hfl := flat_take (valB of sub false ver flex) l' k hlt
        have hfe := flat_le (valB of sub false ver flex) l' (k + 1)
        have hlL := HL.out
        simp only [listB, Bool.false_eq_true, if_false, List.length_append] at hlL
        rw [hfl, List.length_append] at hfe
        have cV := Lib.hid (sp_value wr.drew B of sub (.slice AS nS cS) false ver flex l'[k] _ (Nat.le_trans HB.out HW.out.size) (HF.out.keep (HW.out.drew.kept0 HB.out)) (TrC.keep (w := wr) (w' := wr.drew) (fun _ _ => rfl) HT1.out) (fun h => HP.out h (fun e => by have h2 := HL'.out; rw [e] at h2; rw [← h2] at hlt; simp at hlt)) (by omega))
        have HLE : Hid ((cntEnc flex 4 (some l'.length) ++ ((l'.take k).map (valB of sub false ver flex)).flatten).length + (valB of sub false ver flex l'[k]).length ≤ lim2) := Lib.hid (by rw [List.length_append]; omega)
        have HFL := Lib.hid hfl
        have HbB : Hid (b < w.heap.size + 2) := Lib.hid (by have := HB.out; omega)
        have HX := Lib.hid hbox.1
        clear hfl hfe hlL hS
        go_wp2_with fail
        go_region_held3 (fun w' => w'.cell? ⟨w.heap.size, 6, none⟩ = some (.int .i64 of) ∧ w'.cell? ⟨w.heap.size, 7, none⟩ = some (.slice AS nS cS) ∧ w'.cell? ⟨b, o + k * 5, none⟩ = some (.int .i64 m') ∧ w'.cell? ⟨b, o + k * 5 + 1, none⟩ = some (.slice B1 m1 d1) ∧ w'.cell? ⟨b, o + k * 5 + 2, none⟩ = some (.bool nl') ∧ w'.cell? ⟨b, o + k * 5 + 3, none⟩ = some (.slice B2 m2 d2) ∧ w'.cell? ⟨b, o + k * 5 + 4, none⟩ = some (.slice B3 m3 d3))
          (first | exact HS0.out | exact HS1.out | exact HS2.out)
          (first
            | (refine step_app_oc rfl _ _ 22 rfl Tryz.underlying22 hi hz0 hz1 hz2 rfl HO1.out rfl HV1.out HB1.out HLE.out ?_; intro v5 w5 ho5 hw5; have HO5 := Lib.hid ho5; have HW5 := Lib.hid hw5; have HS2 := Lib.hid (keep7 hw5 HB1.out (Nat.lt_succ_of_lt (Nat.lt_succ_self _)) HbB.out HS1.out); clear ho5 hw5)
            | (go_at_call 61; refine cV.out.mono ?_; rintro e4 w4 ⟨v4, rfl, ho4, hw4'⟩; have hw4 := ((Only.refl (fun _ => False) wr).drew).trans hw4'; clear hw4'; have HW4 := Lib.hid hw4; have HV1 := Lib.hid ho4.oc; have HO1 := Lib.hid (HO.out.keep hw4); have HB1 := Lib.hid (Nat.le_trans HX.out hw4.size); have HS1 := Lib.hid (keep7 (b0 := w.heap.size + 2) hw4.lift HX.out (Nat.lt_succ_of_lt (Nat.lt_succ_self _)) HbB.out HS0.out); clear ho4 hw4))
        have HR : Hid (Own 5 (w.heap.size + 2) w5 v5 (cntEnc flex 4 (some l'.length) ++ ((l'.take (k + 1)).map (valB of sub false ver flex)).flatten) ∧ Only (fun _ => False) w w5 ∧ FBox w w5 of (.slice AS nS cS)) :=
          Lib.hid ⟨by rw [HFL.out, ← List.append_assoc]; exact HO5.out, (HW.out.trans HW4.out).ownAt HW5.out (Nat.le_succ_of_le (Nat.le_succ _)), HBX.out.keep (HW4.out.lift.trans HW5.out)⟩
        clear HO5 HW5 HW4 HS0 HS1 HS2 HV1 HO1 HB1 cV HLE HFL HbB HX HO HW HBX HT1 e0 e1 e2 e3 e4 g6 g7 hbox
        go_wp2
        go_roundw
        case rel => exact ⟨k + 1, hlt, by go_num, HR.out⟩
        case measure => simp [intOf]; omega
      · have hk2 : k = l'.length := by omega
        subst hk2
        have hlt' : ¬ ((l'.length : Int) < (l'.length : Int)) := by omega
        go_wp2
        go_ret
        refine ⟨_, rfl, ?_, HW.out⟩
        have := HO.out.lower (base' := w.heap.size) (Nat.le_succ_of_le (Nat.le_succ _))
        rw [List.take_length] at this
        exact this
  · go_enter Tryz.func32, Tryz.ntmps32
    go_wp2_with (first
      | (go_at_call 58; refine (HN.out _ ?_).mono ?_; (exact (((Only.refl _ _).alloc _).alloc _ : Only (fun _ => False) w _).kept0 HB.out); rintro e1 w1 ⟨rfl, hw1⟩; have O1 := Lib.hid hw1.first2; have f40 := boxA hw1 0 rfl; have f46 := boxA hw1 6 rfl; have f47 := boxA hw1 7 rfl; have f73 := boxC hw1 3 rfl; have W1 := Lib.hid hw1; clear hw1)
      | (go_at_call 59; refine (sp_things _ B _ l ?_).mono ?_; (exact HLl.out.keep (O1.out.kept0 HB.out)); rintro e2 w2 ⟨v2, rfl, hv2, rfl⟩; rw [HL'.out] at hv2; have HT := Lib.hid hv2; obtain ⟨fT, hsl, hT⟩ := hv2; clear hT; obtain ⟨AT, cT, rfl, _⟩ := hsl.sl; clear hsl)
      | (go_at_call 60; refine (sp_counted _ flex true 0 4 ?_ (by decide)).mono ?_; (omega); rintro e3 w3 ⟨v3, rfl, ho3, hw3⟩; have O3 := Lib.hid (O1.out.trans hw3); have HO3 := Lib.hid ho3; have W3 := Lib.hid (W1.out.trans hw3); clear ho3 hw3))
    go_loopw [11, 31] (fun v i wr => i = .int .i64 0 ∧ v = v3 ∧ wr = w3) (fun _ _ _ => 0)
    case atStart => exact ⟨rfl, rfl, rfl⟩
    case round =>
      obtain ⟨rfl, rfl, rfl⟩ := hrel
      go_wp2
      go_ret
      refine ⟨_, rfl, ?_, O3.out⟩
      have := HO3.out.lower (base' := w.heap.size) O1.out.size
      simpa [listB] using this

/-- The function 'field' writes this field. -/
def FieldC (flex : Bool) (f : Fld) : Prop := ∀ (w : World) (B : Nat) (cs : List Value) (ver : Int) (t : Tr) (ts : List Value), B ≤ w.heap.size → FldC w B f cs → TrC w B t ts → (fieldB f ver flex t).length + 16 ≤ lim2 →
  Calls Tryz.prog 32 #[.agg cs.toArray, .int .i64 ver, .bool flex, .agg ts.toArray] w (SpP 5 w (fieldB f ver flex t))
set_option maxRecDepth 100000 in
theorem field_scal (w : World) (kind : Nat) (fr to nu tag df : Int) (of : Nat) (AS : Option Addr) (nS cS : Nat) (ver : Int) (flex : Bool) (n : Int) (A1 : Option Addr) (n1 c1 : Nat) (nl : Bool) (A2 : Option Addr) (n2 c2 : Nat) (A3 : Option Addr) (n3 c3 : Nat) (null : Bool) (out : List UInt8)
    (k11 : ¬ kind = 11) (k10 : ¬ kind = 10)
    (hN : ∀ w', Only (fun _ => False) w w' → Calls Tryz.prog 58 #[.agg #[.int .i64 kind, .int .i64 fr, .int .i64 to, .int .i64 nu, .int .i64 tag, .int .i64 df, .int .i64 of, .slice AS nS cS], .int .i64 ver, .agg #[.int .i64 n, .slice A1 n1 c1, .bool nl, .slice A2 n2 c2, .slice A3 n3 c3]] w' fun e w'' => e = .returned (.bool null) ∧ Only (fun _ => False) w' w'')
    (hV : ∀ w', Only (fun _ => False) w w' → Calls Tryz.prog 61 #[.int .i64 kind, .slice AS nS cS, .bool null, .int .i64 ver, .bool flex, .agg #[.int .i64 n, .slice A1 n1 c1, .bool nl, .slice A2 n2 c2, .slice A3 n3 c3]] w' (SpP 5 w' out)) :
    Calls Tryz.prog 32 #[.agg #[.int .i64 kind, .int .i64 fr, .int .i64 to, .int .i64 nu, .int .i64 tag, .int .i64 df, .int .i64 of, .slice AS nS cS], .int .i64 ver, .bool flex, .agg #[.int .i64 n, .slice A1 n1 c1, .bool nl, .slice A2 n2 c2, .slice A3 n3 c3]] w
      (SpP 5 w out) := by
  have HN := Lib.hid hN
  have HV := Lib.hid hV
  clear hN hV
  have z11 : ((kind : Int) == 11) = false := dec_kind kind 11 k11
  have z10 : ((kind : Int) == 10) = false := dec_kind kind 10 k10
  clear k11 k10
  go_enter Tryz.func32, Tryz.ntmps32
  go_wp2_with (first
    | (go_at_call 58; refine (HN.out _ ?_).mono ?_; (exact ((Only.refl _ _).alloc _).alloc _); rintro e1 w1 ⟨rfl, hw1⟩; have O1 := Lib.hid hw1.first2; have f0 := boxA hw1 0 rfl; have f3 := boxA hw1 3 rfl; have f7 := boxA hw1 7 rfl; have g0 := boxC hw1 0 rfl; have g1 := boxC hw1 1 rfl; have g2 := boxC hw1 2 rfl; have g3 := boxC hw1 3 rfl; have g4 := boxC hw1 4 rfl; clear hw1)
    | (go_at_call 61; refine (HV.out _ O1.out).mono ?_; rintro e2 w2 h2; have H2 := Lib.hid (h2.up O1.out); clear h2; obtain ⟨v2, rfl, h2⟩ := H2.out; clear h2))
  go_ret
  exact H2.out
set_option maxRecDepth 100000 in
theorem field_part (w : World) (fr to nu tag df : Int) (of : Nat) (AS : Option Addr) (nS cS : Nat) (ver : Int) (flex : Bool) (n : Int) (A1 : Option Addr) (n1 c1 : Nat) (nl : Bool) (A2 : Option Addr) (n2 c2 : Nat) (A3 : Option Addr) (n3 c3 : Nat) (null : Bool) (out : List UInt8)
    (kO : nu < 0)
    (hN : ∀ w', Only (fun _ => False) w w' → Calls Tryz.prog 58 #[.agg #[.int .i64 10, .int .i64 fr, .int .i64 to, .int .i64 nu, .int .i64 tag, .int .i64 df, .int .i64 of, .slice AS nS cS], .int .i64 ver, .agg #[.int .i64 n, .slice A1 n1 c1, .bool nl, .slice A2 n2 c2, .slice A3 n3 c3]] w' fun e w'' => e = .returned (.bool null) ∧ Only (fun _ => False) w' w'')
    (hV : ∀ w', Only (fun _ => False) w w' → Calls Tryz.prog 61 #[.int .i64 10, .slice AS nS cS, .bool null, .int .i64 ver, .bool flex, .agg #[.int .i64 n, .slice A1 n1 c1, .bool nl, .slice A2 n2 c2, .slice A3 n3 c3]] w' (SpP 5 w' out)) :
    Calls Tryz.prog 32 #[.agg #[.int .i64 10, .int .i64 fr, .int .i64 to, .int .i64 nu, .int .i64 tag, .int .i64 df, .int .i64 of, .slice AS nS cS], .int .i64 ver, .bool flex, .agg #[.int .i64 n, .slice A1 n1 c1, .bool nl, .slice A2 n2 c2, .slice A3 n3 c3]] w
      (SpP 5 w out) := by
  have HN := Lib.hid hN
  have HV := Lib.hid hV
  clear hN hV
  have hnu : decide (0 ≤ nu) = false := by simpa using kO
  clear kO
  go_enter Tryz.func32, Tryz.ntmps32
  go_wp2_with (first
    | (go_at_call 58; refine (HN.out _ ?_).mono ?_; (exact ((Only.refl _ _).alloc _).alloc _); rintro e1 w1 ⟨rfl, hw1⟩; have O1 := Lib.hid hw1.first2; have f0 := boxA hw1 0 rfl; have f3 := boxA hw1 3 rfl; have f7 := boxA hw1 7 rfl; have g0 := boxC hw1 0 rfl; have g1 := boxC hw1 1 rfl; have g2 := boxC hw1 2 rfl; have g3 := boxC hw1 3 rfl; have g4 := boxC hw1 4 rfl; clear hw1)
    | (go_at_call 61; refine (HV.out _ O1.out).mono ?_; rintro e2 w2 h2; have H2 := Lib.hid (h2.up O1.out); clear h2; obtain ⟨v2, rfl, h2⟩ := H2.out; clear h2))
  go_ret
  exact H2.out

set_option maxRecDepth 100000 in
theorem field_opt (w : World) (fr to nu tag df : Int) (of : Nat) (AS : Option Addr) (nS cS : Nat) (ver : Int) (flex : Bool) (n : Int) (A1 : Option Addr) (n1 c1 : Nat) (nl : Bool) (A2 : Option Addr) (n2 c2 : Nat) (A3 : Option Addr) (n3 c3 : Nat) (null : Bool) (out : List UInt8)
    (kO : 0 ≤ nu) (hl : null = false → out.length + 1 ≤ lim2)
    (hN : ∀ w', Only (fun _ => False) w w' → Calls Tryz.prog 58 #[.agg #[.int .i64 10, .int .i64 fr, .int .i64 to, .int .i64 nu, .int .i64 tag, .int .i64 df, .int .i64 of, .slice AS nS cS], .int .i64 ver, .agg #[.int .i64 n, .slice A1 n1 c1, .bool nl, .slice A2 n2 c2, .slice A3 n3 c3]] w' fun e w'' => e = .returned (.bool null) ∧ Only (fun _ => False) w' w'')
    (hP : null = false → ∀ w', Only (fun _ => False) w w' → Calls Tryz.prog 18 #[.slice AS nS cS, .int .i64 ver, .bool flex, .agg #[.int .i64 n, .slice A1 n1 c1, .bool nl, .slice A2 n2 c2, .slice A3 n3 c3]] w' (SpP 5 w' out)) :
    Calls Tryz.prog 32 #[.agg #[.int .i64 10, .int .i64 fr, .int .i64 to, .int .i64 nu, .int .i64 tag, .int .i64 df, .int .i64 of, .slice AS nS cS], .int .i64 ver, .bool flex, .agg #[.int .i64 n, .slice A1 n1 c1, .bool nl, .slice A2 n2 c2, .slice A3 n3 c3]] w
      (SpP 5 w (if null then [255] else 1 :: out)) := by
  obtain ⟨i0, hi, hz0, hz1, hz2⟩ := info_u8
  have HN := Lib.hid hN
  have hnu : decide (0 ≤ nu) = true := by simpa using kO
  clear hN kO
  cases null with
  | true =>
    have cF := Lib.hid (fun w' => sp_fixed w' (-1) 1 (by decide) (by decide) (by decide))
    have e0 : beEnc 1 (-1) = [255] := by decide
    rw [e0] at cF
    clear hP hl e0
    go_enter Tryz.func32, Tryz.ntmps32
    go_wp2_with (first
      | (go_at_call 58; refine (HN.out _ ?_).mono ?_; (exact ((Only.refl _ _).alloc _).alloc _); rintro e1 w1 ⟨rfl, hw1⟩; have O1 := Lib.hid hw1.first2; have f0 := boxA hw1 0 rfl; have f3 := boxA hw1 3 rfl; clear hw1)
      | (go_at_call 62; refine (cF.out _).mono ?_; rintro e2 w2 h2; have H2 := Lib.hid (h2.up O1.out); clear h2; obtain ⟨v2, rfl, h2⟩ := H2.out; clear h2))
    go_ret
    exact H2.out
  | false =>
    have HP := Lib.hid (hP rfl)
    have cF := Lib.hid (fun w' => sp_fixed w' 1 1 (by decide) (by decide) (by decide))
    have e0 : beEnc 1 1 = [1] := by decide
    rw [e0] at cF
    have HLE : Hid (([1] : List UInt8).length + out.length ≤ lim2) := Lib.hid (by have := hl rfl; simpa [Nat.add_comm] using this)
    clear hP hl e0
    generalize hhd : ([1] : List UInt8) = hd at cF HLE
    go_enter Tryz.func32, Tryz.ntmps32
    go_wp2_with (first
      | (go_at_call 58; refine (HN.out _ ?_).mono ?_; (exact ((Only.refl _ _).alloc _).alloc _); rintro e1 w1 ⟨rfl, hw1⟩; have W1 := Lib.hid hw1; have O1 := Lib.hid hw1.first2; have f0 := boxA hw1 0 rfl; have f3 := boxA hw1 3 rfl; clear hw1))
    have HSq : Hid (∀ w', Only (fun _ => False) w1 w' → w'.cell? ⟨w.heap.size, 7, none⟩ = some (.slice AS nS cS) ∧ w'.cell? ⟨w.heap.size + 1, 0, none⟩ = some (.int .i64 n) ∧ w'.cell? ⟨w.heap.size + 1, 1, none⟩ = some (.slice A1 n1 c1) ∧ w'.cell? ⟨w.heap.size + 1, 2, none⟩ = some (.bool nl) ∧ w'.cell? ⟨w.heap.size + 1, 3, none⟩ = some (.slice A2 n2 c2) ∧ w'.cell? ⟨w.heap.size + 1, 4, none⟩ = some (.slice A3 n3 c3)) :=
      Lib.hid fun w' h => ⟨boxA (W1.out.trans h) 7 rfl, boxC (W1.out.trans h) 0 rfl, boxC (W1.out.trans h) 1 rfl, boxC (W1.out.trans h) 2 rfl, boxC (W1.out.trans h) 3 rfl, boxC (W1.out.trans h) 4 rfl⟩
    have HD := Lib.hid ((Only.refl (fun _ => False) w1).drew)
    clear W1 f0 f3
    go_region_held3 (fun w' => w'.cell? ⟨w.heap.size, 7, none⟩ = some (.slice AS nS cS) ∧ w'.cell? ⟨w.heap.size + 1, 0, none⟩ = some (.int .i64 n) ∧ w'.cell? ⟨w.heap.size + 1, 1, none⟩ = some (.slice A1 n1 c1) ∧ w'.cell? ⟨w.heap.size + 1, 2, none⟩ = some (.bool nl) ∧ w'.cell? ⟨w.heap.size + 1, 3, none⟩ = some (.slice A2 n2 c2) ∧ w'.cell? ⟨w.heap.size + 1, 4, none⟩ = some (.slice A3 n3 c3))
      (first | exact HSq.out _ HD.out | exact HSq.out _ HT1.out | exact HSq.out _ HT2.out | exact HSq.out _ (HT2.out.ownAt hw5 (Nat.le_refl _)) | exact HSq.out _ HT3.out)
      (first
        | (refine step_app_oc rfl _ _ 22 rfl Tryz.underlying22 hi hz0 hz1 hz2 rfl HO2.out rfl HV2.out HT2.out.size HLE.out ?_; intro v5 w5 ho5 hw5; have HO5 := Lib.hid ho5; have HT3 := Lib.hid (HT2.out.ownAt hw5 (Nat.le_refl _)); clear ho5 hw5)
        | (go_at_call 62; refine (cF.out _).mono ?_; rintro e2 w2 ⟨v2, rfl, ho, hw⟩; have HT1 := Lib.hid (HD.out.trans hw); have HO1 : Hid (Own 5 w1.heap.size w2 v2 hd) := Lib.hid ho; clear ho hw)
        | (go_at_call 18; refine (HP.out _ (O1.out.trans HT1.out)).mono ?_; rintro e3 w3 ⟨v3, rfl, ho, hw⟩; have HT2 := Lib.hid (HT1.out.trans hw); have HV2 := Lib.hid ho.oc; have HO2 := Lib.hid (HO1.out.keep hw); clear ho hw))
    all_goals go_wp2_with fail
    all_goals go_ret
    all_goals (subst hhd; exact ⟨_, rfl, HO5.out.lower O1.out.size, O1.out.trans HT3.out⟩)

theorem fieldB_opt {fr to nu tag df : Int} {of : Nat} {sub : List Fld} (kO : 0 ≤ nu) (ver : Int) (flex : Bool) (t : Tr) :
    fieldB (.mk 10 fr to nu tag df of sub) ver flex t = if (t.nl && mayN nu ver) = true then [255] else 1 :: partB sub ver flex t := by
  simp only [fieldB]
  rw [if_neg (by decide), if_pos trivial, if_pos kO]
  rfl

theorem fieldB_val {kind : Nat} {fr to nu tag df : Int} {of : Nat} {sub : List Fld} (k11 : ¬ kind = 11) (kO : kind = 10 → nu < 0) (ver : Int) (flex : Bool) (t : Tr) :
    fieldB (.mk kind fr to nu tag df of sub) ver flex t = valB kind sub (t.nl && mayN nu ver) ver flex t := by
  simp only [fieldB, if_neg k11, valB]
  by_cases h10 : kind = 10
  · have := kO h10
    rw [if_pos h10, if_pos h10, if_neg (by omega)]
    rfl
  · rw [if_neg h10, if_neg h10]

theorem sp_field (flex : Bool) (f : Fld) (hp : (f.kind = 10 ∨ f.kind = 11 ∧ f.of = 10) → PartC flex f.sub) : FieldC flex f := by
  intro w B cs ver t ts hB hF hT hl
  cases hF with
  | @mk kind of fr to nu tag df sub vs f hs hS =>
  have hF' : FldC w B (.mk kind fr to nu tag df of sub) [.int .i64 kind, .int .i64 fr, .int .i64 to, .int .i64 nu, .int .i64 tag, .int .i64 df, .int .i64 of, vs] := .mk f hs hS
  obtain ⟨AS, cS, rfl, _⟩ := hs.sl
  obtain ⟨n, A1, n1, c1, nl, A2, n2, c2, A3, n3, c3, rfl⟩ := hT.form
  by_cases k11 : kind = 11
  · subst k11
    have hLt : TrsC w B t.l (.slice A2 n2 c2) := by
      cases hT with
      | mk fl fu h0 h1 hs' hl' hL hu hU => exact ⟨fl, hl', hL⟩
    rw [listB_eq rfl] at hl ⊢
    exact field_list w B fr to nu tag df of sub AS _ cS ver flex n A1 n1 c1 nl A2 n2 c2 A3 n3 c3 _ t.l hB ⟨f, hs, hS⟩ hLt (fun h _ => hp (.inr ⟨rfl, h⟩))
      (fun w' hk => sp_null w' B _ _ ver t _ (hF'.keep hk) (hT.keep hk)) hl
  · by_cases hopt : kind = 10 ∧ 0 ≤ nu
    · obtain ⟨rfl, hnu⟩ := hopt
      rw [fieldB_opt hnu] at hl ⊢
      refine field_opt w fr to nu tag df of AS _ cS ver flex n A1 n1 c1 nl A2 n2 c2 A3 n3 c3 _ _ hnu (fun hn => ?_) (fun w' (hk : Only (fun _ => False) w w') => sp_null w' B _ _ ver t _ (hF'.keep (hk.kept0 hB)) (hT.keep (hk.kept0 hB)))
        (fun hn w' hk => hp (.inl rfl) w' B _ ver t _ (Nat.le_trans hB hk.size) (FldsC.keep ⟨f, hs, hS⟩ (hk.kept0 hB)) (hT.keep (hk.kept0 hB)) ?_)
      · rw [hn] at hl; simp at hl; omega
      · show (partB sub ver flex t).length + 16 ≤ lim2
        rw [hn] at hl; simp at hl; omega
    have hO' : kind = 10 → nu < 0 := fun h => by have : ¬ 0 ≤ nu := fun h2 => hopt ⟨h, h2⟩; omega
    rw [fieldB_val k11 hO'] at hl ⊢
    have hN := (fun w' (hk : Only (fun _ => False) w w') => sp_null w' B _ _ ver t _ (hF'.keep (hk.kept0 hB)) (hT.keep (hk.kept0 hB)))
    have hV := (fun w' (hk : Only (fun _ => False) w w') => sp_value w' B kind sub _ (t.nl && mayN nu ver) ver flex t _ (Nat.le_trans hB hk.size) (FldsC.keep ⟨f, hs, hS⟩ (hk.kept0 hB)) (hT.keep (hk.kept0 hB)) (fun h => hp (.inl h)) hl)
    by_cases k10 : kind = 10
    · subst k10
      exact field_part w fr to nu tag df of AS _ cS ver flex n A1 n1 c1 nl A2 n2 c2 A3 n3 c3 _ _ (hO' rfl) hN hV
    · exact field_scal w kind fr to nu tag df of AS _ cS ver flex n A1 n1 c1 nl A2 n2 c2 A3 n3 c3 _ _ k11 k10 hN hV
/-- A list that holds nothing: what its things would be does not matter. -/
theorem sp_field0 (flex : Bool) (w : World) (B : Nat) (f : Fld) (cs : List Value) (ver : Int) (t : Tr) (ts : List Value) (hk : f.kind = 11) (hl0 : t.l = []) (hB : B ≤ w.heap.size) (hF : FldC w B f cs) (hT : TrC w B t ts) (hl : (fieldB f ver flex t).length + 16 ≤ lim2) :
    Calls Tryz.prog 32 #[.agg cs.toArray, .int .i64 ver, .bool flex, .agg ts.toArray] w (SpP 5 w (fieldB f ver flex t)) := by
  cases hF with
  | @mk kind of fr to nu tag df sub vs f hs hS =>
  have hF' : FldC w B (.mk kind fr to nu tag df of sub) [.int .i64 kind, .int .i64 fr, .int .i64 to, .int .i64 nu, .int .i64 tag, .int .i64 df, .int .i64 of, vs] := .mk f hs hS
  obtain ⟨AS, cS, rfl, _⟩ := hs.sl
  obtain ⟨n, A1, n1, c1, nl, A2, n2, c2, A3, n3, c3, rfl⟩ := hT.form
  have k11 : kind = 11 := hk
  subst k11
  have hLt : TrsC w B t.l (.slice A2 n2 c2) := by
    cases hT with
    | mk fl fu h0 h1 hs' hl' hL hu hU => exact ⟨fl, hl', hL⟩
  rw [listB_eq rfl] at hl ⊢
  exact field_list w B fr to nu tag df of sub AS _ cS ver flex n A1 n1 c1 nl A2 n2 c2 A3 n3 c3 _ t.l hB ⟨f, hs, hS⟩ hLt (fun _ h => absurd hl0 h)
    (fun w' hk => sp_null w' B _ _ ver t _ (hF'.keep hk) (hT.keep hk)) hl
end Go.Proofs.YtpefipjgcpchaaaGreatDoorR.Kf

namespace Go.Proofs.YtpefipjgcpchaaaGreatDoorR.Kf
set_option linter.unusedVariables false
set_option linter.unusedSimpArgs false
open Go Go.RowKit

/-- What is written of the first k fields. -/
def oneB (f : Fld) (ver : Int) (flex : Bool) (t : Tr) : List UInt8 := if hasV f.fr f.to ver then fieldB f ver flex t else []
def toB (fs : List Fld) (ver : Int) (flex : Bool) (l : List Tr) : Nat → List UInt8
  | 0 => []
  | k + 1 => toB fs ver flex l k ++ (match fs[k]? with | some f => oneB f ver flex (trAt l k) | none => [])
theorem toB_cons (f : Fld) (fs : List Fld) (ver : Int) (flex : Bool) (l : List Tr) : ∀ k, toB (f :: fs) ver flex l (k + 1) = oneB f ver flex (l.headD tr0) ++ toB fs ver flex l.tail k := by
  intro k
  induction k with
  | zero =>
    have : trAt l 0 = l.headD tr0 := by cases l <;> rfl
    simp [toB, this]
  | succ k ih =>
    have e : trAt l (k + 1) = trAt l.tail k := by cases l <;> simp [trAt]
    rw [toB, ih, toB, List.append_assoc, e]
    rfl
theorem toB_all : ∀ (fs : List Fld) (ver : Int) (flex : Bool) (l : List Tr), toB fs ver flex l fs.length = fieldsB fs ver flex l := by
  intro fs
  induction fs with
  | nil => intro ver flex l; simp [toB, fieldsB]
  | cons f fs ih =>
    intro ver flex l
    rw [List.length_cons, toB_cons, ih, fieldsB]
    rfl
theorem toB_le (fs : List Fld) (ver : Int) (flex : Bool) (l : List Tr) : ∀ (k j : Nat), (toB fs ver flex l k).length ≤ (toB fs ver flex l (k + j)).length := by
  intro k j
  induction j with
  | zero => exact Nat.le_refl _
  | succ j ih => rw [← Nat.add_assoc, toB, List.length_append]; omega
theorem toB_step {fs : List Fld} {ver : Int} {flex : Bool} {l : List Tr} {k : Nat} (h : k < fs.length) : toB fs ver flex l (k + 1) = toB fs ver flex l k ++ oneB fs[k] ver flex (trAt l k) := by
  rw [toB, List.getElem?_eq_getElem h]

theorem FldsC.at_ {w : World} {B : Nat} {fs : List Fld} {A : Option Addr} {n c k : Nat} (h : FldsC w B fs (.slice A n c)) (hk : k < fs.length) :
    ∃ b o AF nF cF, A = some ⟨b, o, none⟩ ∧ n = fs.length ∧ b < B ∧ FldC w B fs[k] [.int .i64 fs[k].kind, .int .i64 fs[k].fr, .int .i64 fs[k].to, .int .i64 fs[k].nu, .int .i64 fs[k].tag, .int .i64 fs[k].df, .int .i64 fs[k].of, .slice AF nF cF] ∧
      (w.cell? ⟨b, o + k * 8, none⟩ = some (.int .i64 fs[k].kind) ∧ w.cell? ⟨b, o + k * 8 + 1, none⟩ = some (.int .i64 fs[k].fr) ∧ w.cell? ⟨b, o + k * 8 + 2, none⟩ = some (.int .i64 fs[k].to) ∧ w.cell? ⟨b, o + k * 8 + 3, none⟩ = some (.int .i64 fs[k].nu) ∧ w.cell? ⟨b, o + k * 8 + 4, none⟩ = some (.int .i64 fs[k].tag) ∧ w.cell? ⟨b, o + k * 8 + 5, none⟩ = some (.int .i64 fs[k].df) ∧ w.cell? ⟨b, o + k * 8 + 6, none⟩ = some (.int .i64 fs[k].of) ∧ w.cell? ⟨b, o + k * 8 + 7, none⟩ = some (.slice AF nF cF)) := by
  obtain ⟨f, hs, hT⟩ := h
  have hn : n = fs.length := by obtain ⟨A', c', e, _⟩ := hs.sl; injection e
  obtain ⟨b, o, c', e, hc, hb, hlen, hcell⟩ := hs.lit (by decide) hk
  injection e with e1 e2 e3
  have ht := hT k _ (List.getElem?_eq_getElem hk)
  generalize f k = cs at ht hcell
  obtain ⟨AF, nF, cF, rfl⟩ := ht.form
  exact ⟨b, o, AF, nF, cF, e1, hn, hb, ht, hcell 0 _ rfl, hcell 1 _ rfl, hcell 2 _ rfl, hcell 3 _ rfl, hcell 4 _ rfl, hcell 5 _ rfl, hcell 6 _ rfl, hcell 7 _ rfl⟩
theorem keep13 {wr w' : World} {p q : Nat} {x0 x1 x2 x3 x4 x5 x6 x7 y0 y1 y2 y3 y4 : Value} (hp' : w'.heap[p]? = wr.heap[p]?) (hq' : w'.heap[q]? = wr.heap[q]?)
    (h : wr.cell? ⟨p, 0, none⟩ = some x0 ∧ wr.cell? ⟨p, 1, none⟩ = some x1 ∧ wr.cell? ⟨p, 2, none⟩ = some x2 ∧ wr.cell? ⟨p, 3, none⟩ = some x3 ∧ wr.cell? ⟨p, 4, none⟩ = some x4 ∧ wr.cell? ⟨p, 5, none⟩ = some x5 ∧ wr.cell? ⟨p, 6, none⟩ = some x6 ∧ wr.cell? ⟨p, 7, none⟩ = some x7 ∧ wr.cell? ⟨q, 0, none⟩ = some y0 ∧ wr.cell? ⟨q, 1, none⟩ = some y1 ∧ wr.cell? ⟨q, 2, none⟩ = some y2 ∧ wr.cell? ⟨q, 3, none⟩ = some y3 ∧ wr.cell? ⟨q, 4, none⟩ = some y4) : w'.cell? ⟨p, 0, none⟩ = some x0 ∧ w'.cell? ⟨p, 1, none⟩ = some x1 ∧ w'.cell? ⟨p, 2, none⟩ = some x2 ∧ w'.cell? ⟨p, 3, none⟩ = some x3 ∧ w'.cell? ⟨p, 4, none⟩ = some x4 ∧ w'.cell? ⟨p, 5, none⟩ = some x5 ∧ w'.cell? ⟨p, 6, none⟩ = some x6 ∧ w'.cell? ⟨p, 7, none⟩ = some x7 ∧ w'.cell? ⟨q, 0, none⟩ = some y0 ∧ w'.cell? ⟨q, 1, none⟩ = some y1 ∧ w'.cell? ⟨q, 2, none⟩ = some y2 ∧ w'.cell? ⟨q, 3, none⟩ = some y3 ∧ w'.cell? ⟨q, 4, none⟩ = some y4 := by
  obtain ⟨h0, h1, h2, h3, h4, h5, h6, h7, k0, k1, k2, k3, k4⟩ := h
  exact ⟨(cell_kept (a := ⟨p, _, none⟩) hp').trans h0, (cell_kept (a := ⟨p, _, none⟩) hp').trans h1, (cell_kept (a := ⟨p, _, none⟩) hp').trans h2, (cell_kept (a := ⟨p, _, none⟩) hp').trans h3, (cell_kept (a := ⟨p, _, none⟩) hp').trans h4, (cell_kept (a := ⟨p, _, none⟩) hp').trans h5, (cell_kept (a := ⟨p, _, none⟩) hp').trans h6, (cell_kept (a := ⟨p, _, none⟩) hp').trans h7, (cell_kept (a := ⟨q, _, none⟩) hq').trans k0, (cell_kept (a := ⟨q, _, none⟩) hq').trans k1, (cell_kept (a := ⟨q, _, none⟩) hq').trans k2, (cell_kept (a := ⟨q, _, none⟩) hq').trans k3, (cell_kept (a := ⟨q, _, none⟩) hq').trans k4⟩
theorem boxN {w w1 : World} {A : Array Value} {e : Nat} (h : Only (fun _ => False) (w.alloc (.cells A e)) w1) (i : Nat) {v : Value} (hv : A[i]? = some v) : w1.cell? ⟨w.heap.size, i, none⟩ = some v := by
  have hb : w1.heap[w.heap.size]? = some (.cells A e) := by
    rw [h.block _ (by simp) id, heap_alloc_new]
  simp [World.cell?, hb, hv]
theorem own_ne {U base b : Nat} {w : World} {v : Value} {s : List UInt8} (h : Own U base w v s) (hb : w.heap.size ≤ b) : some b ≠ v.ownBlock := by
  intro e
  have := (World.ownsRow.lt h b e.symm).2
  omega
theorem own_ne_low {U base b : Nat} {w : World} {v : Value} {s : List UInt8} (h : Own U base w v s) (hb : b < base) : some b ≠ v.ownBlock := by
  intro e
  have := (World.ownsRow.lt h b e.symm).1
  omega
/-- The tree's own box. -/
def TBox (p : Nat) (w : World) (y0 y1 y2 y3 y4 : Value) : Prop := p < w.heap.size ∧ w.cell? ⟨p, 0, none⟩ = some y0 ∧ w.cell? ⟨p, 1, none⟩ = some y1 ∧ w.cell? ⟨p, 2, none⟩ = some y2 ∧ w.cell? ⟨p, 3, none⟩ = some y3 ∧ w.cell? ⟨p, 4, none⟩ = some y4
theorem TBox.keep {p b0 : Nat} {wr w' : World} {y0 y1 y2 y3 y4 : Value} (h : TBox p wr y0 y1 y2 y3 y4) (ho : Only (fun j => b0 ≤ j) wr w') (hp : p < b0) : TBox p w' y0 y1 y2 y3 y4 := by
  obtain ⟨hs, k0, k1, k2, k3, k4⟩ := h
  have hq' : w'.heap[p]? = wr.heap[p]? := ho.block _ hs (by omega)
  exact ⟨Nat.lt_of_lt_of_le hs ho.size, (cell_kept (a := ⟨p, _, none⟩) hq').trans k0, (cell_kept (a := ⟨p, _, none⟩) hq').trans k1, (cell_kept (a := ⟨p, _, none⟩) hq').trans k2, (cell_kept (a := ⟨p, _, none⟩) hq').trans k3, (cell_kept (a := ⟨p, _, none⟩) hq').trans k4⟩

/-- The numbers in a field's cells, as letters. -/
theorem one_eq {f : Fld} {fr to : Int} (h1 : f.fr = fr) (h2 : f.to = to) : True := trivial

set_option maxHeartbeats 1000000 in
set_option maxRecDepth 100000 in
theorem part_plain (fs : List Fld) (hlen : fs.length ≤ 65536) (htag : ∀ f ∈ fs, f.tag < 0) (hF : ∀ f ∈ fs, FieldC false f) : PartC false fs := by
  intro w B v ver t ts hB hFs hT hl
  have e : partB fs ver false t = toB fs ver false t.l fs.length := by simp [partB, toB_all]
  rw [e] at hl ⊢
  obtain ⟨i0, hi, hz0, hz1, hz2⟩ := info_u8
  obtain ⟨ff, hsl, _⟩ := id hFs
  obtain ⟨A, c, rfl, _⟩ := hsl.sl
  obtain ⟨n, A1, n1, c1, nl, A2, n2, c2, A3, n3, c3, rfl⟩ := hT.form
  have HB := Lib.hid hB
  have HFs := Lib.hid hFs
  have HT := Lib.hid hT
  have HL := Lib.hid hl
  have HTG := Lib.hid htag
  have HFC := Lib.hid hF
  have ht0 : TBox w.heap.size (w.alloc (.cells #[.int .i64 n, .slice A1 n1 c1, .bool nl, .slice A2 n2 c2, .slice A3 n3 c3] 26)) (.int .i64 n) (.slice A1 n1 c1) (.bool nl) (.slice A2 n2 c2) (.slice A3 n3 c3) := by
    refine ⟨by simp, ?_, ?_, ?_, ?_, ?_⟩ <;> simp [World.cell?_alloc_new]
  have HT0 := Lib.hid ht0
  clear hB hFs hT hl htag hF hsl e ht0
  go_enter Tryz.func18, Tryz.ntmps18
  go_wp2_with fail
  go_loopw [9, 23] (fun v i wr => ∃ k : Nat, k ≤ fs.length ∧ i = .int .i64 k ∧ Own 5 (w.heap.size + 1) wr v (toB fs ver false t.l k) ∧ Only (fun _ => False) w wr ∧ TBox w.heap.size wr (.int .i64 n) (.slice A1 n1 c1) (.bool nl) (.slice A2 n2 c2) (.slice A3 n3 c3))
    (fun _ i _ => fs.length - (intOf i).toNat)
  case atStart => exact ⟨0, Nat.zero_le _, rfl, World.ownsRow_nil _ _ _ _, (Only.refl _ _).alloc _, HT0.out⟩
  case round =>
    obtain ⟨k, hk, rfl, hown, honly, hbox⟩ := hrel
    have HO := Lib.hid hown
    have HW := Lib.hid honly
    have HBX := Lib.hid hbox
    clear hown honly HT0
    by_cases hlt : k < fs.length
    · obtain ⟨b, o, AF, nF, cF, rfl, _, hbB, hf, e0, e1, e2, e3, e4, e5, e6, e7⟩ := (HFs.out.keep (HW.out.kept0 HB.out)).at_ hlt
      obtain ⟨hws, y0, y1, y2, y3, y4⟩ := hbox
      have htg : fs[k].tag < 0 := HTG.out _ (List.getElem_mem hlt)
      have hstep := toB_step (ver := ver) (flex := false) (l := t.l) hlt
      have hle := toB_le fs ver false t.l (k + 1) (fs.length - (k + 1))
      rw [show k + 1 + (fs.length - (k + 1)) = fs.length by omega, hstep, List.length_append] at hle
      have hfc : FieldC false fs[k] := HFC.out _ (List.getElem_mem hlt)
      have hone : oneB fs[k] ver false (trAt t.l k) = if hasV fs[k].fr fs[k].to ver then fieldB fs[k] ver false (trAt t.l k) else [] := rfl
      generalize fs[k] = f at hf e0 e1 e2 e3 e4 e5 e6 e7 htg hstep hle hfc hone
      have HSt := Lib.hid hstep
      have HFd := Lib.hid hf
      have HC := Lib.hid hfc
      have HLe := Lib.hid (Nat.le_trans (Nat.add_le_add_right hle 16) HL.out)
      have HOne := Lib.hid hone
      have HbB := Lib.hid hbB
      have hb' : b < wr.heap.size := by have := HB.out; have := HW.out.size; omega
      have hlt' : (k : Int) < (fs.length : Int) := by omega
      have hws' : w.heap.size + 1 ≤ wr.heap.size := hws
      have hw64 : wrap64 ((k : Int) + 1) = (k : Int) + 1 := by unfold wrap64; omega
      have cH := Lib.hid (fun w' (hw : Only (fun _ => False) wr w') => sp_has w' B f _ ver (hf.keep (hw.kept0 (Nat.le_trans HB.out HW.out.size))))
      clear hstep hf hfc hone hle hbB
      generalize f.kind = kind at HFd e0 e1 e2 e3 e4 e5 e6 e7 htg cH
      generalize f.nu = nu at HFd e0 e1 e2 e3 e4 e5 e6 e7 htg cH
      generalize f.df = df at HFd e0 e1 e2 e3 e4 e5 e6 e7 htg cH
      generalize f.of = of at HFd e0 e1 e2 e3 e4 e5 e6 e7 htg cH
      generalize f.tag = tag at HFd e0 e1 e2 e3 e4 e5 e6 e7 htg cH
      have tt : decide (tag < 0) = true := by simpa using htg
      cases hhv : hasV f.fr f.to ver
      · rw [hhv] at cH
        generalize f.fr = fr at HFd e0 e1 e2 e3 e4 e5 e6 e7 cH
        generalize f.to = to at HFd e0 e1 e2 e3 e4 e5 e6 e7 cH
        go_wp2_with (go_at_call 31; refine (cH.out _ ?_).mono ?_; (exact (Only.refl _ _).alloc _); rintro e1 w1 ⟨rfl, hw1⟩; have HW1 := Lib.hid hw1; clear hw1)
        go_roundw
        case rel =>
          have O1 := ((Only.refl (fun _ => False) wr).alloc _).trans HW1.out
          refine ⟨k + 1, hlt, by go_num, ?_, HW.out.trans O1, HBX.out.keep (b0 := w.heap.size + 1) O1.lift (Nat.lt_succ_self _)⟩
          rw [HSt.out, HOne.out, hhv]
          simpa using HO.out.keep O1
        case measure => simp [intOf]; omega
      · rw [hhv] at cH
        have HH := Lib.hid hhv
        clear hhv
        generalize f.fr = fr at HFd e0 e1 e2 e3 e4 e5 e6 e7 cH
        generalize f.to = to at HFd e0 e1 e2 e3 e4 e5 e6 e7 cH
        go_wp2_with (go_at_call 31; refine (cH.out _ ?_).mono ?_; (exact (Only.refl _ _).alloc _); rintro e1 w1 ⟨rfl, hw1⟩; have HW1 := Lib.hid hw1; clear hw1)
        have O1 := Lib.hid (((Only.refl (fun _ => False) wr).alloc _).trans HW1.out)
        have HS1 := Lib.hid (And.intro (boxN HW1.out 0 rfl) (And.intro (boxN HW1.out 1 rfl) (And.intro (boxN HW1.out 2 rfl) (And.intro (boxN HW1.out 3 rfl) (And.intro (boxN HW1.out 4 rfl) (And.intro (boxN HW1.out 5 rfl) (And.intro (boxN HW1.out 6 rfl) (And.intro (boxN HW1.out 7 rfl) (HBX.out.keep (b0 := w.heap.size + 1) O1.out.lift (Nat.lt_succ_self _)).2))))))))
        have hz1' : wr.heap.size < w1.heap.size := by have := HW1.out.size; simp at this; omega
        have HZ := Lib.hid hz1'
        have HZ7 : Hid (w.heap.size < w1.heap.size) := Lib.hid (by omega)
        have HB1 : Hid (B ≤ w1.heap.size) := Lib.hid (by have := HB.out; omega)
        have cA := Lib.hid (sp_at w1.drew B t _ k HB1.out (TrC.keep (w := w) (w' := w1.drew) ((HW.out.trans O1.out).drew.kept0 HB.out) HT.out))
        have HX : Hid (fieldB f ver false (trAt t.l k) = oneB f ver false (trAt t.l k)) := Lib.hid (by rw [HOne.out, HH.out]; rfl)
        have HLF : Hid ((fieldB f ver false (trAt t.l k)).length + 16 ≤ lim2) := Lib.hid (by rw [HX.out]; have := HLe.out; omega)
        have HLE : Hid ((toB fs ver false t.l k).length + (fieldB f ver false (trAt t.l k)).length ≤ lim2) := Lib.hid (by rw [HX.out]; have := HLe.out; omega)
        clear hz1' e0 e1 e2 e3 e4 e5 e6 e7 y0 y1 y2 y3 y4
        go_region_held3 (fun w' => w'.cell? ⟨wr.heap.size, 0, none⟩ = some (.int .i64 kind) ∧ w'.cell? ⟨wr.heap.size, 1, none⟩ = some (.int .i64 fr) ∧ w'.cell? ⟨wr.heap.size, 2, none⟩ = some (.int .i64 to) ∧ w'.cell? ⟨wr.heap.size, 3, none⟩ = some (.int .i64 nu) ∧ w'.cell? ⟨wr.heap.size, 4, none⟩ = some (.int .i64 tag) ∧ w'.cell? ⟨wr.heap.size, 5, none⟩ = some (.int .i64 df) ∧ w'.cell? ⟨wr.heap.size, 6, none⟩ = some (.int .i64 of) ∧ w'.cell? ⟨wr.heap.size, 7, none⟩ = some (.slice AF nF cF) ∧ w'.cell? ⟨w.heap.size, 0, none⟩ = some (.int .i64 n) ∧ w'.cell? ⟨w.heap.size, 1, none⟩ = some (.slice A1 n1 c1) ∧ w'.cell? ⟨w.heap.size, 2, none⟩ = some (.bool nl) ∧ w'.cell? ⟨w.heap.size, 3, none⟩ = some (.slice A2 n2 c2) ∧ w'.cell? ⟨w.heap.size, 4, none⟩ = some (.slice A3 n3 c3))
          (first | exact HS1.out | exact HS2.out | exact HS3.out | exact HS4.out)
          (first
            | (refine step_app_ocg rfl _ _ 22 rfl Tryz.underlying22 hi hz0 hz1 hz2 rfl HO3.out rfl HV3.out HB3.out HLE.out ?_; intro v5 w5 ho5 hw5 hg5; have HO5 := Lib.hid ho5; have HW5 := Lib.hid hw5; have HS4 := Lib.hid (keep13 (hg5.block _ HZ3.out (own_ne HO.out (Nat.le_refl _))) (hg5.block _ HZ37.out (own_ne_low HO.out (Nat.lt_succ_self _))) HS3.out); clear ho5 hw5 hg5)
            | (go_at_call 33; refine cA.out.mono ?_; rintro e2 w2 ⟨cs2, rfl, ht2, hw2⟩; have HT2 := Lib.hid ht2; have HW2 := Lib.hid (((Only.refl (fun _ => False) w1).drew).trans hw2); have HS2 := Lib.hid (keep13 (HW2.out.block _ HZ.out id) (HW2.out.block _ HZ7.out id) HS1.out); clear ht2 hw2; dsimp only)
            | (go_at_call 32; refine (HC.out w2 B _ ver (trAt t.l k) cs2 (Nat.le_trans HB1.out HW2.out.size) (HFd.out.keep ((O1.out.trans HW2.out).kept0 (Nat.le_trans HB.out HW.out.size))) HT2.out HLF.out).mono ?_; rintro e3 w3 ⟨v3, rfl, ho3, hw3⟩; have HW3 := Lib.hid hw3; have HV3 := Lib.hid ho3.oc; have HO3 := Lib.hid (HO.out.keep (O1.out.trans (HW2.out.trans hw3))); have HB3 : Hid (w.heap.size + 1 ≤ w3.heap.size) := Lib.hid (Nat.le_trans HZ7.out (Nat.le_trans HW2.out.size hw3.size)); have HZ3 := Lib.hid (Nat.lt_of_lt_of_le HZ.out (Nat.le_trans HW2.out.size hw3.size)); have HZ37 := Lib.hid (Nat.lt_of_lt_of_le HZ7.out (Nat.le_trans HW2.out.size hw3.size)); have HS3 := Lib.hid (keep13 (hw3.block _ (Nat.lt_of_lt_of_le HZ.out HW2.out.size) id) (hw3.block _ (Nat.lt_of_lt_of_le HZ7.out HW2.out.size) id) HS2.out); clear ho3 hw3; dsimp only))
        have HR : Hid (Own 5 (w.heap.size + 1) w5 v5 (toB fs ver false t.l (k + 1)) ∧ Only (fun _ => False) w w5 ∧ TBox w.heap.size w5 (.int .i64 n) (.slice A1 n1 c1) (.bool nl) (.slice A2 n2 c2) (.slice A3 n3 c3)) := Lib.hid ⟨by rw [HSt.out, ← HX.out]; exact HO5.out,
          (HW.out.trans (O1.out.trans (HW2.out.trans HW3.out))).ownAt HW5.out (Nat.le_succ _), Nat.lt_of_lt_of_le HZ37.out HW5.out.size, by obtain ⟨_, _, _, _, _, _, _, _, h⟩ := HS4.out; exact h⟩
        clear HO5 HW5 HW2 HW3 HS1 HS2 HS3 HS4 HV3 HO3 HB3 HZ3 HZ37 HT2 HZ HZ7 HB1 cA HX HLF HLE O1 HW1 HO HW HBX HSt HFd HC HLe HOne HbB cH
        go_wp2_with fail
        go_roundw
        case rel => exact ⟨k + 1, hlt, by go_num, HR.out⟩
        case measure => simp [intOf]; omega
    · have hk2 : k = fs.length := by omega
      subst hk2
      have hlt' : ¬ ((fs.length : Int) < (fs.length : Int)) := by omega
      go_wp2_with fail
      go_ret
      exact ⟨_, rfl, HO.out.lower (Nat.le_succ _), HW.out⟩

/-! ### the parts joined -/

mutual
/-- Fields without tags. -/
def Fld.good : Fld → Bool
  | .mk _ _ _ _ tag _ _ sub => decide (tag < 0) && fldsGood sub
def fldsGood : List Fld → Bool
  | [] => true
  | f :: fs => Fld.good f && fldsGood fs
end
theorem fldsGood_mem : ∀ {fs : List Fld}, fldsGood fs = true → ∀ f ∈ fs, Fld.good f = true := by
  intro fs
  induction fs with
  | nil => intro _ f hf; cases hf
  | cons g fs ih =>
    intro h f hf
    simp only [fldsGood, Bool.and_eq_true] at h
    rcases List.mem_cons.1 hf with rfl | hf
    · exact h.1
    · exact ih h.2 f hf
mutual
def Fld.lens : Fld → Bool
  | .mk _ _ _ _ _ _ _ sub => decide (sub.length ≤ 65536) && fldsLens sub
def fldsLens : List Fld → Bool
  | [] => true
  | f :: fs => Fld.lens f && fldsLens fs
end
mutual
theorem field_all : ∀ f : Fld, Fld.good f = true → Fld.lens f = true → FieldC false f
  | .mk kind fr to nu tag df of sub, h, hl => by
    simp only [Fld.good, Bool.and_eq_true, decide_eq_true_eq] at h
    simp only [Fld.lens, Bool.and_eq_true, decide_eq_true_eq] at hl
    refine sp_field false _ ?_
    intro _
    exact part_plain sub hl.1 (fun f hf => by
      have := fldsGood_mem h.2 f hf
      cases f
      simp only [Fld.good, Bool.and_eq_true, decide_eq_true_eq] at this
      exact this.1) (fields_all sub h.2 hl.2)
theorem fields_all : ∀ fs : List Fld, fldsGood fs = true → fldsLens fs = true → ∀ f ∈ fs, FieldC false f
  | [], _, _ => fun f hf => by cases hf
  | g :: fs, h, hl => fun f hf => by
    simp only [fldsGood, Bool.and_eq_true] at h
    simp only [fldsLens, Bool.and_eq_true] at hl
    rcases List.mem_cons.1 hf with e | hf
    · rw [e]; exact field_all g h.1 hl.1
    · exact fields_all fs h.2 hl.2 f hf
end
theorem part_all (fs : List Fld) (h : fldsGood fs = true) (hl : fldsLens fs = true) (hn : fs.length ≤ 65536) : PartC false fs :=
  part_plain fs hn (fun f hf => by
    have := fldsGood_mem h f hf
    cases f
    simp only [Fld.good, Bool.and_eq_true, decide_eq_true_eq] at this
    exact this.1) (fields_all fs h hl)
end Go.Proofs.YtpefipjgcpchaaaGreatDoorR.Kf

namespace Go.Proofs.YtpefipjgcpchaaaGreatDoorR.Kf
set_option linter.unusedVariables false
set_option linter.unusedSimpArgs false
open Go Go.RowKit

def fxOf (fx ver : Int) : Bool := decide (0 ≤ fx) && decide (fx ≤ ver)
set_option maxRecDepth 100000 in
theorem sp_write (w : World) (B : Nat) (fs : List Fld) (v : Value) (fx ver : Int) (t : Tr) (ts : List Value) (hB : B ≤ w.heap.size) (hF : FldsC w B fs v) (hT : TrC w B t ts) (hp : PartC (fxOf fx ver) fs) (hl : (partB fs ver (fxOf fx ver) t).length + 16 ≤ lim2) :
    Calls Tryz.prog 7 #[.agg #[v, .int .i64 fx], .int .i64 ver, .agg ts.toArray] w (SpP 5 w (partB fs ver (fxOf fx ver) t)) := by
  obtain ⟨n, A1, n1, c1, nl, A2, n2, c2, A3, n3, c3, rfl⟩ := hT.form
  obtain ⟨f, hs, _⟩ := id hF
  obtain ⟨AS, cS, rfl, _⟩ := hs.sl
  have hp' := (fun w' (hw : Only (fun _ => False) w w') => hp w' B _ ver t _ (Nat.le_trans hB hw.size) (hF.keep (hw.kept0 hB)) (hT.keep (hw.kept0 hB)) hl)
  clear hp hF hT hl hs hB
  generalize partB fs ver (fxOf fx ver) t = out at hp'
  unfold fxOf at hp'
  by_cases h0 : 0 ≤ fx
  · by_cases h1 : fx ≤ ver
    · have t0 : decide (0 ≤ fx) = true := by simpa using h0
      have t1 : decide (fx ≤ ver) = true := by simpa using h1
      rw [t0, t1] at hp'
      have HP := Lib.hid hp'
      clear hp' h0 h1
      go_enter Tryz.func7, Tryz.ntmps7
      go_wp2_with (go_at_call 18; refine (HP.out _ ?_).mono ?_; (exact ((Only.refl _ _).alloc _).alloc _); rintro e1 w1 h1; have H1 := Lib.hid (h1.up (((Only.refl _ _).alloc _).alloc _ : Only (fun _ => False) w _)); clear h1; obtain ⟨v1, rfl, h1⟩ := H1.out; clear h1)
      go_ret
      exact H1.out
    · have t0 : decide (0 ≤ fx) = true := by simpa using h0
      have t1 : decide (fx ≤ ver) = false := by simpa using h1
      rw [t0, t1] at hp'
      have HP := Lib.hid hp'
      clear hp' h0 h1
      go_enter Tryz.func7, Tryz.ntmps7
      go_wp2_with (go_at_call 18; refine (HP.out _ ?_).mono ?_; (exact ((Only.refl _ _).alloc _).alloc _); rintro e1 w1 h1; have H1 := Lib.hid (h1.up (((Only.refl _ _).alloc _).alloc _ : Only (fun _ => False) w _)); clear h1; obtain ⟨v1, rfl, h1⟩ := H1.out; clear h1)
      go_ret
      exact H1.out
  · have t0 : decide (0 ≤ fx) = false := by simpa using h0
    rw [t0] at hp'
    have HP := Lib.hid hp'
    clear hp' h0
    go_enter Tryz.func7, Tryz.ntmps7
    go_wp2_with (go_at_call 18; refine (HP.out _ ?_).mono ?_; (exact ((Only.refl _ _).alloc _).alloc _); rintro e1 w1 h1; have H1 := Lib.hid (h1.up (((Only.refl _ _).alloc _).alloc _ : Only (fun _ => False) w _)); clear h1; obtain ⟨v1, rfl, h1⟩ := H1.out; clear h1)
    go_ret
    exact H1.out

end Go.Proofs.YtpefipjgcpchaaaGreatDoorR.Kf
