/- The reference's numbers. -/
import Derived.Test.YtcanhgcceagplaaDoorSpA
import Derived.Test.YtcanhgcceagplaaDoorKbH
import Derived.WalkMore
import Derived.LoopTactic
import Derived.Handy
import Derived.Laws.BitsLemmas
import Derived.Lib.Hide
namespace Go.Proofs.YtcanhgcceagplaaDoor.Kf
set_option linter.unusedVariables false
set_option linter.unusedSimpArgs false
open Go Go.RowKit

theorem beEnc_get (n : Nat) : ∀ (x : Int) (k : Nat), k < n → (beEnc n x)[k]? = some (byteOf (x / 256 ^ (n - 1 - k))) := by
  induction n with
  | zero => intro x k h; omega
  | succ n ih =>
    intro x k h
    simp only [beEnc]
    cases k with
    | zero => simp
    | succ k =>
      rw [List.getElem?_cons_succ, ih x k (by omega), show n + 1 - 1 - (k + 1) = n - 1 - k by omega]
theorem beEnc_take (n : Nat) (x : Int) (k : Nat) (h : k < n) : (beEnc n x).take (k + 1) = (beEnc n x).take k ++ [byteOf (x / 256 ^ (n - 1 - k))] := by
  rw [List.take_add_one, beEnc_get n x k h]; rfl

theorem pow8 (m : Nat) : (2 : Int) ^ (8 * m) = 256 ^ m := by rw [Int.pow_mul]; rfl

set_option maxRecDepth 100000 in
theorem sp_fixed (w : World) (n : Int) (size : Nat) (h0 : -9223372036854775808 ≤ n) (h1 : n < 9223372036854775808) (hs : size ≤ 8) :
    Calls Tryd.prog 22 #[.int .i64 n, .int .i64 size] w (SpP 5 w (beEnc size n)) := by
  obtain ⟨i0, hi, hz0, hz1, hz2⟩ := info_u8
  have ew : wrap64 ((size : Int) - 1) = (size : Int) - 1 := by unfold wrap64; omega
  go_enter Tryd.func22, Tryd.ntmps22
  go_wp2
  go_loopw [5, 6] (fun v i wr => ∃ k : Nat, k ≤ size ∧ i = .int .i64 ((size : Int) - 1 - k) ∧ Own 5 w.heap.size wr v ((beEnc size n).take k) ∧ Only (fun _ => False) w wr)
    (fun _ i _ => ((intOf i) + 1).toNat)
  case atStart => exact ⟨0, Nat.zero_le _, by simp, World.ownsRow_nil _ _ _ _, Only.refl _ _⟩
  case round =>
    obtain ⟨k, hk, rfl, hown, honly⟩ := hrel
    have HO := Lib.hid hown
    have HW := Lib.hid honly
    clear hown honly
    go_wp2_with (at_builtin; refine wp_app_new rfl _ _ 24 rfl Tryd.underlying24 hi hz0 hz1 hz2 rfl HO.out (bs := [byteOf (n / 256 ^ (size - 1 - k))]) rfl rfl ?_ HW.out.size ?_ ?_)
    · simp [u8v_byteOf, pow8]
    · simp [lim2]; omega
    · intro v' w1 ho1 hw1
      have hlt : k < size := by
        have : (k : Int) ≤ (size : Int) - 1 := by assumption
        omega
      have HR : Hid (Own 5 w.heap.size w1 v' ((beEnc size n).take (k + 1)) ∧ Only (fun _ => False) w w1) := Lib.hid ⟨by rw [beEnc_take _ _ _ hlt]; exact ho1, HW.out.own hw1 (Nat.le_refl _)⟩
      clear ho1 hw1 HO HW
      have ek : wrap64 ((size : Int) - 1 - k - 1) = (size : Int) - 1 - k - 1 := by unfold wrap64; omega
      go_wp2
      go_roundw
      case rel => exact ⟨k + 1, by omega, by congr 1; omega, HR.out⟩
      case measure => simp [intOf]; omega
    · have hge : ¬ (k : Int) ≤ (size : Int) - 1 := by first | assumption | (have : (size : Int) - 1 < k := by assumption); omega
      have hk2 : k = size := by omega
      subst hk2
      go_wp2
      go_ret
      exact ⟨_, rfl, by have := HO.out; rwa [List.take_of_length_le (by rw [beEnc_length]; exact Nat.le_refl _)] at this, HW.out⟩

end Go.Proofs.YtcanhgcceagplaaDoor.Kf
