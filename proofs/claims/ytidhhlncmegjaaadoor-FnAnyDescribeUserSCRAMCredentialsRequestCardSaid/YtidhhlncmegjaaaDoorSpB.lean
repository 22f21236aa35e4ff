/- The reference's small functions. -/
import Derived.Test.YtidhhlncmegjaaaDoorSpA
import Derived.Test.YtidhhlncmegjaaaDoorKbH
import Derived.WalkMore
import Derived.LoopTactic
import Derived.Handy
import Derived.Laws.BitsLemmas
import Derived.Lib.Hide
namespace Go.Proofs.YtidhhlncmegjaaaDoor.Kf
set_option linter.unusedVariables false
set_option linter.unusedSimpArgs false
open Go Go.RowKit

theorem beEnc_get (n : Nat) : ∀ (x : Int) (k : Nat), k < n → (beEnc n x)[k]? = some (byteOf (x / 256 ^ (n - 1 - k))) := by
  induction n with
  | zero => intro x k h; omega
  | succ n ih =>
    intro x k h
    simp only [beEnc]
    cases k with
    | zero => simp
    | succ k =>
      rw [List.getElem?_cons_succ, ih x k (by omega), show n + 1 - 1 - (k + 1) = n - 1 - k by omega]
theorem beEnc_take (n : Nat) (x : Int) (k : Nat) (h : k < n) : (beEnc n x).take (k + 1) = (beEnc n x).take k ++ [byteOf (x / 256 ^ (n - 1 - k))] := by
  rw [List.take_add_one, beEnc_get n x k h]; rfl

theorem pow8 (m : Nat) : (2 : Int) ^ (8 * m) = 256 ^ m := by rw [Int.pow_mul]; rfl

set_option maxRecDepth 100000 in
theorem sp_fixed (w : World) (n : Int) (size : Nat) (h0 : -9223372036854775808 ≤ n) (h1 : n < 9223372036854775808) (hs : size ≤ 8) :
    Calls Tryd.prog 39 #[.int .i64 n, .int .i64 size] w (SpP 5 w (beEnc size n)) := by
  obtain ⟨i0, hi, hz0, hz1, hz2⟩ := info_u8
  have ew : wrap64 ((size : Int) - 1) = (size : Int) - 1 := by unfold wrap64; omega
  go_enter Tryd.func39, Tryd.ntmps39
  go_wp2
  go_loopw [5, 6] (fun v i wr => ∃ k : Nat, k ≤ size ∧ i = .int .i64 ((size : Int) - 1 - k) ∧ Own 5 w.heap.size wr v ((beEnc size n).take k) ∧ Only (fun _ => False) w wr)
    (fun _ i _ => ((intOf i) + 1).toNat)
  case atStart => exact ⟨0, Nat.zero_le _, by simp, World.ownsRow_nil _ _ _ _, Only.refl _ _⟩
  case round =>
    obtain ⟨k, hk, rfl, hown, honly⟩ := hrel
    have HO := Lib.hid hown
    have HW := Lib.hid honly
    clear hown honly
    go_wp2_with (at_builtin; refine wp_app_new rfl _ _ 22 rfl Tryd.underlying22 hi hz0 hz1 hz2 rfl HO.out (bs := [byteOf (n / 256 ^ (size - 1 - k))]) rfl rfl ?_ HW.out.size ?_ ?_)
    · simp [u8v_byteOf, pow8]
    · simp [lim2]; omega
    · intro v' w1 ho1 hw1
      have hlt : k < size := by
        have : (k : Int) ≤ (size : Int) - 1 := by assumption
        omega
      have HR : Hid (Own 5 w.heap.size w1 v' ((beEnc size n).take (k + 1)) ∧ Only (fun _ => False) w w1) := Lib.hid ⟨by rw [beEnc_take _ _ _ hlt]; exact ho1, HW.out.own hw1 (Nat.le_refl _)⟩
      clear ho1 hw1 HO HW
      have ek : wrap64 ((size : Int) - 1 - k - 1) = (size : Int) - 1 - k - 1 := by unfold wrap64; omega
      go_wp2
      go_roundw
      case rel => exact ⟨k + 1, by omega, by congr 1; omega, HR.out⟩
      case measure => simp [intOf]; omega
    · have hge : ¬ (k : Int) ≤ (size : Int) - 1 := by first | assumption | (have : (size : Int) - 1 < k := by assumption); omega
      have hk2 : k = size := by omega
      subst hk2
      go_wp2
      go_ret
      exact ⟨_, rfl, by have := HO.out; rwa [List.take_of_length_le (by rw [beEnc_length]; exact Nat.le_refl _)] at this, HW.out⟩

/-- How many octets a number of a kind has. -/
def wid (kind : Nat) : Nat := if kind = 1 then 1 else if kind = 2 ∨ kind = 5 then 2 else if kind = 3 then 4 else 8
set_option maxRecDepth 100000 in
theorem sp_width (w : World) (kind : Nat) : Calls Tryd.prog 148 #[.int .i64 kind] w fun e w' => e = .returned (.int .i64 (wid kind)) ∧ w' = w := by
  have e1 : ((kind : Int) == 1) = decide (kind = 1) := by by_cases h : kind = 1 <;> simp [h]; omega
  have e2 : ((kind : Int) == 2) = decide (kind = 2) := by by_cases h : kind = 2 <;> simp [h]; omega
  have e5 : ((kind : Int) == 5) = decide (kind = 5) := by by_cases h : kind = 5 <;> simp [h]; omega
  have e3 : ((kind : Int) == 3) = decide (kind = 3) := by by_cases h : kind = 3 <;> simp [h]; omega
  unfold wid
  by_cases h1 : kind = 1
  · subst h1
    go_enter Tryd.func148, Tryd.ntmps148
    go_wp2
    go_ret
    exact ⟨rfl, rfl⟩
  by_cases h2 : kind = 2
  · subst h2
    go_enter Tryd.func148, Tryd.ntmps148
    go_wp2
    go_ret
    exact ⟨rfl, rfl⟩
  by_cases h5 : kind = 5
  · subst h5
    go_enter Tryd.func148, Tryd.ntmps148
    go_wp2
    go_ret
    exact ⟨rfl, rfl⟩
  by_cases h3 : kind = 3
  · subst h3
    go_enter Tryd.func148, Tryd.ntmps148
    go_wp2
    go_ret
    exact ⟨rfl, rfl⟩
  simp only [h1, h2, h5, h3, or_self, if_false] at *
  go_enter Tryd.func148, Tryd.ntmps148
  go_wp2
  go_ret
  exact ⟨rfl, rfl⟩

/-- A slice's first things, at most 32767. -/
theorem min_most (n : Nat) : (if (n : Int) ≤ 32767 then (n : Int) else 32767) = ((min n most : Nat) : Int) := by unfold most; split <;> omega
set_option maxRecDepth 100000 in
theorem sp_whole (w : World) (B : Nat) (v : Value) (s : List UInt8) (h : Oc w B v s) : Calls Tryd.prog 102 #[v] w fun e w' => ∃ v', e = .returned v' ∧ Oc w B v' (s.take most) ∧ w' = w := by
  rcases h with ⟨rfl, rfl⟩ | ⟨a, c, rfl, hc, hcell⟩
  · go_enter Tryd.func102, Tryd.ntmps102
    go_wp2
    go_ret
    exact ⟨_, rfl, Oc.nil _ _, rfl⟩
  · have H : Hid (Oc w B (.slice (some a) (s.take most).length c) (s.take most)) := Lib.hid (.inr ⟨a, c, rfl, by simp; omega, fun j b hb => hcell j b (by rw [List.getElem?_take] at hb; split at hb; exact hb; cases hb)⟩)
    have el : (s.take most).length = min s.length most := by simp [Nat.min_comm]
    rw [el] at H
    clear hcell el
    generalize s.length = n at H hc
    go_enter Tryd.func102, Tryd.ntmps102
    go_wp2
    · have e : min n most = 32767 := by unfold most; omega
      rw [e] at H
      go_ret
      exact ⟨_, rfl, H.out, rfl⟩
    · have e : min n most = n := by unfold most; omega
      rw [e] at H
      go_ret
      exact ⟨_, rfl, H.out, rfl⟩
set_option maxRecDepth 100000 in
theorem sp_things (w : World) (B : Nat) (v : Value) (l : List Tr) (h : TrsC w B l v) : Calls Tryd.prog 145 #[v] w fun e w' => ∃ v', e = .returned v' ∧ TrsC w B (l.take most) v' ∧ w' = w := by
  obtain ⟨f, hs, hT⟩ := h
  rcases hs with ⟨rfl, h0⟩ | ⟨a, c, rfl, hc, hcell⟩
  · obtain rfl := List.eq_nil_of_length_eq_zero h0
    go_enter Tryd.func145, Tryd.ntmps145
    go_wp2
    go_ret
    exact ⟨_, rfl, ⟨fun _ => [], .inl ⟨rfl, rfl⟩, by simp⟩, rfl⟩
  · have el : (l.take most).length = min l.length most := by simp [Nat.min_comm]
    have H : Hid (TrsC w B (l.take most) (.slice (some a) (l.take most).length c)) := Lib.hid ⟨f, .inr ⟨a, c, rfl, by rw [el]; omega, fun j hj => hcell j (by omega)⟩, fun j t hj => hT j t (by rw [List.getElem?_take] at hj; split at hj; exact hj; cases hj)⟩
    rw [el] at H
    clear hcell el hT
    generalize l.length = n at H hc
    go_enter Tryd.func145, Tryd.ntmps145
    go_wp2
    · have e : min n most = 32767 := by unfold most; omega
      rw [e] at H
      go_ret
      exact ⟨_, rfl, H.out, rfl⟩
    · have e : min n most = n := by unfold most; omega
      rw [e] at H
      go_ret
      exact ⟨_, rfl, H.out, rfl⟩

/-- The field of a number. -/
def trAt (l : List Tr) (i : Nat) : Tr := (l[i]?).getD tr0
theorem trAt_in {l : List Tr} {i : Nat} (h : i < l.length) : trAt l i = l[i] := by simp [trAt, h]
theorem trAt_out {l : List Tr} {i : Nat} (h : ¬ i < l.length) : trAt l i = tr0 := by
  have : l[i]? = none := List.getElem?_eq_none (by omega)
  simp [trAt, this]
set_option maxRecDepth 100000 in
theorem sp_at (w : World) (B : Nat) (t : Tr) (cs : List Value) (i : Nat) (hB : B ≤ w.heap.size) (h : TrC w B t cs) : Calls Tryd.prog 97 #[.agg cs.toArray, .int .i64 i] w fun e w' => ∃ cs', e = .returned (.agg cs'.toArray) ∧ TrC w' B (trAt t.l i) cs' ∧ Only (fun _ => False) w w' := by
  cases h with
  | @mk n s nl l u vs vl vu fl fu h0 h1 hs hl hL hu hU =>
  show Calls _ _ _ _ fun e w' => ∃ cs', e = .returned (.agg cs'.toArray) ∧ TrC w' B (trAt l i) cs' ∧ Only (fun _ => False) w w'
  by_cases hi : i < l.length
  · obtain ⟨b, o, c, rfl, hc, hab, hlen, hcell⟩ := hl.lit (by decide) hi
    have hT := hL i _ (List.getElem?_eq_getElem hi)
    rw [trAt_in hi]
    have HT := Lib.hid hT
    generalize l[i] = t at HT hT
    generalize fl i = cs at HT hT hcell
    clear hL hU hs hl hu h0 h1 hlen
    have hb : b < w.heap.size := by omega
    have HB := Lib.hid hB
    clear hB hab
    obtain ⟨n', A1, n1, c1, nl', A2, n2, c2, A3, n3, c3, rfl⟩ := hT.form
    clear hT
    have d0 := hcell 0 _ rfl
    have d1 := hcell 1 _ rfl
    have d2 := hcell 2 _ rfl
    have d3 := hcell 3 _ rfl
    have d4 := hcell 4 _ rfl
    rw [Nat.add_zero] at d0
    clear hcell
    generalize l.length = m at hi hc
    have hi' : (i : Int) < (m : Int) := by omega
    go_enter Tryd.func97, Tryd.ntmps97
    go_wp2
    go_returns
    exact ⟨_, rfl, HT.out.keep ((((Only.refl _ _).alloc _).alloc _ : Only (fun _ => False) _ _).kept0 HB.out), ((Only.refl _ _).alloc _).alloc _⟩
  · rw [trAt_out hi]
    obtain ⟨A, c, rfl, hc⟩ := hl.sl
    clear hL hU hs hl hu h0 h1
    have HB := Lib.hid hB
    clear hB
    generalize l.length = m at hi hc
    have hi' : ¬ (i : Int) < (m : Int) := by omega
    go_enter Tryd.func97, Tryd.ntmps97
    go_wp2
    go_returns
    exact ⟨[_, _, _, _, _], rfl, TrC.zero _ _, ((Only.refl _ _).alloc _).alloc _⟩

set_option maxRecDepth 100000 in
theorem sp_has (w : World) (B : Nat) (x : Fld) (cs : List Value) (v : Int) (h : FldC w B x cs) : Calls Tryd.prog 95 #[.agg cs.toArray, .int .i64 v] w fun e w' => e = .returned (.bool (hasV x.fr x.to v)) ∧ Only (fun _ => False) w w' := by
  obtain ⟨A, n, c, rfl⟩ := h.form
  clear h
  generalize x.fr = fr
  generalize x.to = to
  by_cases h1 : fr ≤ v
  · by_cases h2 : to < 0
    · have t1 : decide (fr ≤ v) = true := by simpa using h1
      have t2 : decide (to < 0) = true := by simpa using h2
      go_enter Tryd.func95, Tryd.ntmps95
      go_wp2
      go_ret
      exact ⟨by congr 2; simp [hasV, h1, h2]; try (intros; omega), (Only.refl _ _).alloc _⟩
    · have t1 : decide (fr ≤ v) = true := by simpa using h1
      have t2 : decide (to < 0) = false := by simpa using h2
      go_enter Tryd.func95, Tryd.ntmps95
      go_wp2
      go_ret
      exact ⟨by congr 2; simp [hasV, h1, h2]; try (intros; omega), (Only.refl _ _).alloc _⟩
  · have t1 : decide (fr ≤ v) = false := by simpa using h1
    go_enter Tryd.func95, Tryd.ntmps95
    go_wp2
    go_ret
    exact ⟨by congr 2; simp [hasV, h1]; try (intros; omega), (Only.refl _ _).alloc _⟩
set_option maxRecDepth 100000 in
theorem sp_null (w : World) (B : Nat) (x : Fld) (cs : List Value) (v : Int) (t : Tr) (ts : List Value) (h : FldC w B x cs) (ht : TrC w B t ts) :
    Calls Tryd.prog 144 #[.agg cs.toArray, .int .i64 v, .agg ts.toArray] w fun e w' => e = .returned (.bool (t.nl && mayN x.nu v)) ∧ Only (fun _ => False) w w' := by
  obtain ⟨A, n, c, rfl⟩ := h.form
  clear h
  generalize x.nu = nu
  cases ht with
  | @mk tn s nl l u vs vl vu fl fu h0 h1 hs hl hL hu hU =>
  obtain ⟨A1, c1, rfl, _⟩ := hs.sl
  obtain ⟨A2, c2, rfl, _⟩ := hl.sl
  obtain ⟨A3, c3, rfl, _⟩ := hu.sl
  show Calls _ _ _ _ fun e w' => e = .returned (.bool (nl && mayN nu v)) ∧ Only (fun _ => False) w w'
  clear h0 h1 hs hl hL hu hU
  cases nl
  · go_enter Tryd.func144, Tryd.ntmps144
    go_wp2
    go_ret
    exact ⟨by simp, ((Only.refl _ _).alloc _).alloc _⟩
  · by_cases h1 : 0 ≤ nu
    · have t1 : decide (0 ≤ nu) = true := by simpa using h1
      go_enter Tryd.func144, Tryd.ntmps144
      go_wp2
      go_ret
      exact ⟨by congr 2; simp [mayN, h1]; try (intros; omega), ((Only.refl _ _).alloc _).alloc _⟩
    · have t1 : decide (0 ≤ nu) = false := by simpa using h1
      go_enter Tryd.func144, Tryd.ntmps144
      go_wp2
      go_ret
      exact ⟨by congr 2; simp [mayN, h1]; try (intros; omega), ((Only.refl _ _).alloc _).alloc _⟩

theorem uvEncF_small {k n : Nat} (h : n < 128) : uvEncF (k + 1) n = [UInt8.ofNat n] := by simp [uvEncF, h]
theorem uvEncF_big {k n : Nat} (h : ¬ n < 128) : uvEncF (k + 1) n = UInt8.ofNat (n % 128 + 128) :: uvEncF k (n / 128) := by simp [uvEncF, h]
theorem u8v_lt (m : Nat) (h : m < 256) : u8v (UInt8.ofNat m) = .int .u8 m := by unfold u8v; rw [UInt8.toNat_ofNat_of_lt' h]
theorem uvEncF_len : ∀ k n, (uvEncF k n).length ≤ k := by
  intro k
  induction k with
  | zero => intro n; simp [uvEncF]
  | succ k ih => intro n; simp only [uvEncF]; split; simp; have := ih (n / 128); simp; omega
theorem wraps_u64 (n : Int) (h₀ : 0 ≤ n) (h₁ : n < 2 ^ 64) : IntKind.u64.wrap n = n := by rw [IntKind.wrap_u64]; omega
def bigB (m : Nat) : UInt8 := UInt8.ofNat (m % 128 + 128)
theorem and127_64 (m : Nat) (h : m < 18446744073709551616) : bits .and .u64 (m : Int) 127 = (m : Int) % 128 :=
  bits_mask .u64 64 (by decide) wraps_u64 7 (by decide) _ (by omega) (by omega)
theorem or128_8 (y : Nat) (h : y < 128) : bits .or .u8 (y : Int) 128 = (y : Int) + 128 := by
  have e : ∀ m : Fin 128, bits .or .u8 (m.1 : Int) 128 = (m.1 : Int) + 128 := by decide +kernel
  exact e ⟨y, h⟩
theorem uvByte (m : Nat) (h : m < 18446744073709551616) : Value.int .u8 (bits .or .u8 (bits .and .u64 (m : Int) 127 % 256) 128) = u8v (bigB m) := by
  unfold bigB
  rw [u8v_lt _ (by omega), and127_64 m h]
  have : (m : Int) % 128 % 256 = ((m % 128 : Nat) : Int) := by omega
  rw [this, or128_8 _ (by omega)]
  congr 1
theorem div_lt {m k : Nat} (h : m < 128 ^ (k + 1 + 1)) : m / 128 < 128 ^ (k + 1) := by
  rw [Nat.pow_succ] at h
  exact Nat.div_lt_of_lt_mul (by rw [Nat.mul_comm]; exact h)
set_option maxRecDepth 100000 in
theorem sp_uvarint (w : World) (n : Nat) (hn : n < 9223372036854775808) : Calls Tryd.prog 100 #[.int .u64 n] w (SpP 5 w (uvEnc n)) := by
  obtain ⟨i0, hi, hz0, hz1, hz2⟩ := info_u8
  go_enter Tryd.func100, Tryd.ntmps100
  go_wp2
  go_loopw [0, 3] (fun i v wr => ∃ (k m : Nat) (out : List UInt8), i = .int .u64 m ∧ m < 128 ^ (k + 1) ∧ m ≤ n ∧ k ≤ 9 ∧ out.length + k ≤ 9 ∧ out ++ uvEncF (k + 1) m = uvEnc n ∧ Own 5 w.heap.size wr v out ∧ Only (fun _ => False) w wr)
    (fun i _ _ => (intOf i).toNat)
  case atStart => exact ⟨9, n, [], rfl, by omega, Nat.le_refl _, Nat.le_refl _, by simp, rfl, World.ownsRow_nil _ _ _ _, Only.refl _ _⟩
  case round =>
    obtain ⟨k, m, out, rfl, hm, hmn, hk, ho, he, hown, honly⟩ := hrel
    have HO := Lib.hid hown
    have HW := Lib.hid honly
    have HE := Lib.hid he
    have HM := Lib.hid hm
    clear hown honly he hm
    go_wp2_with (first
      | (at_builtin; refine wp_app_new rfl (.tmp 6) (.tmp 11) 22 rfl Tryd.underlying22 hi hz0 hz1 hz2 rfl HO.out (bs := [bigB m]) rfl rfl ?_ HW.out.size ?_ ?_)
      | (at_builtin; refine wp_app_new rfl (.tmp 15) (.tmp 18) 22 rfl Tryd.underlying22 hi hz0 hz1 hz2 rfl HO.out (bs := [UInt8.ofNat m]) rfl rfl ?_ HW.out.size ?_ ?_))
    · rw [uvByte m (by omega)]; rfl
    · simp [lim2]; omega
    · intro v' w1 ho1 hw1
      have hlt : ¬ m < 128 := by
        have : (127 : Int) < (m : Int) := by assumption
        omega
      obtain ⟨k, rfl⟩ : ∃ j, k = j + 1 := by
        cases k with
        | zero => exact absurd HM.out (by simpa using hlt)
        | succ j => exact ⟨j, rfl⟩
      have HR : Hid ((out ++ [bigB m]) ++ uvEncF (k + 1) (m / 128) = uvEnc n ∧ Own 5 w.heap.size w1 v' (out ++ [bigB m]) ∧ Only (fun _ => False) w w1) :=
        Lib.hid ⟨by rw [List.append_assoc, List.singleton_append, bigB, ← uvEncF_big hlt]; exact HE.out, ho1, HW.out.own hw1 (Nat.le_refl _)⟩
      have HM2 := Lib.hid (div_lt HM.out)
      clear ho1 hw1 HO HW HE HM
      go_wp2
      go_roundw
      case rel => exact ⟨k, m / 128, out ++ [bigB m], by simp, HM2.out, by omega, by omega, by simp; omega, HR.out⟩
      case measure => simp [intOf]; omega
    · have hlt : m < 128 := by
        have : (m : Int) ≤ 127 := by assumption
        omega
      rw [← u8v_lt m (by omega)]; rfl
    · simp [lim2]; omega
    · intro v' w1 ho1 hw1
      have hlt : m < 128 := by
        have : (m : Int) ≤ 127 := by assumption
        omega
      have HR : Hid (Own 5 w.heap.size w1 v' (uvEnc n) ∧ Only (fun _ => False) w w1) :=
        Lib.hid ⟨by rw [← HE.out, uvEncF_small hlt]; exact ho1, HW.out.own hw1 (Nat.le_refl _)⟩
      clear ho1 hw1 HO HW HE HM
      go_wp2
      go_ret
      exact ⟨_, rfl, HR.out⟩
end Go.Proofs.YtidhhlncmegjaaaDoor.Kf
