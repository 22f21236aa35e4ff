/- A number in groups of seven bits is read. -/
import Derived.Test.YtcanhgcceagplaaDoorKbA
import Derived.Test.YtcanhgcceagplaaDoorProg
import Derived.Lib.Hide
import Derived.WalkMore
import Derived.ScopeJumps
import Derived.Laws.BitsLemmas
namespace Go.Proofs.YtcanhgcceagplaaDoor.Kf
set_option linter.unusedVariables false
set_option linter.unusedSimpArgs false
open Go Go.RowKit

theorem wraps_u32 (n : Int) (h₀ : 0 ≤ n) (h₁ : n < 2 ^ 32) : IntKind.u32.wrap n = n := by rw [IntKind.wrap_u32]; omega
theorem or_low (x y : Int) (i : Nat) (hx₀ : 0 ≤ x) (hx : x % 2 ^ i = 0) (hx₁ : x < 2 ^ 32) (hy₀ : 0 ≤ y) (hy : y < 2 ^ i) (hy₁ : y < 2 ^ 32) : bits .or .u32 y x = y + x := by
  have h := bits_join .u32 32 (by decide) wraps_u32 i x y hx₀ hx hx₁ hy₀ hy hy₁
  obtain ⟨a, rfl⟩ := Int.eq_ofNat_of_zero_le hx₀
  obtain ⟨b, rfl⟩ := Int.eq_ofNat_of_zero_le hy₀
  have e1 := (bits_nat .u32 32 (by decide) wraps_u32 a b (by exact_mod_cast hx₁) (by exact_mod_cast hy₁)).2
  have e2 := (bits_nat .u32 32 (by decide) wraps_u32 b a (by exact_mod_cast hy₁) (by exact_mod_cast hx₁)).2
  rw [e2, Nat.or_comm, ← e1, h, Int.add_comm]
theorem and127 (x : UInt8) : bits .and .u8 (x.toNat : Int) 127 = (x.toNat : Int) % 128 :=
  bits_mask .u8 8 (by decide) wraps_u8 7 (by decide) _ (by omega) (by have := x.toNat_lt; omega)
theorem and128 (x : UInt8) : (bits .and .u8 (x.toNat : Int) 128 == 0) = decide (x.toNat < 128) := by
  have h := x.toNat_lt
  have e0 : bits .and .u8 (x.toNat : Int) 128 = ((x.toNat &&& 128 : Nat) : Int) := (bits_nat .u8 8 (by decide) wraps_u8 x.toNat 128 h (by decide)).1
  rw [e0]
  have e : ∀ m : Fin 256, (((m.1 &&& 128 : Nat) : Int) == 0) = decide (m.1 < 128) := by decide +kernel
  exact e ⟨x.toNat, h⟩
theorem and128n (x : UInt8) (h : ¬ x.toNat < 128) : (bits .and .u8 (x.toNat : Int) 128 == 0) = false := by rw [and128]; simpa using h
theorem and128y (x : UInt8) (h : x.toNat < 128) : (bits .and .u8 (x.toNat : Int) 128 == 0) = true := by rw [and128]; simpa using h

theorem or7 (a : Int) (x : UInt8) (i : Nat) (p : Int) (hp : p = 2 ^ i) (h0 : 0 ≤ a) (h1 : a < p) (hi : 128 * p ≤ 4294967296) :
    bits .or .u32 a (bits .and .u8 (x.toNat : Int) 127 % 4294967296 * p % 4294967296) = a + (x.toNat : Int) % 128 * p := by
  rw [and127]
  have r0 : 0 ≤ (x.toNat : Int) % 128 := by omega
  have r1 : (x.toNat : Int) % 128 ≤ 127 := by omega
  have e1 : (x.toNat : Int) % 128 % 4294967296 = (x.toNat : Int) % 128 := by omega
  rw [e1]
  generalize (x.toNat : Int) % 128 = y at r0 r1
  have hp0 : 0 < p := by omega
  have m0 : 0 ≤ y * p := Int.mul_nonneg r0 (Int.le_of_lt hp0)
  have m1 : y * p ≤ 127 * p := Int.mul_le_mul_of_nonneg_right r1 (Int.le_of_lt hp0)
  rw [Int.emod_eq_of_lt m0 (by omega)]
  exact or_low _ _ i m0 (by rw [hp]; exact Int.mul_emod_left _ _) (by omega) h0 (by omega) (by omega)
theorem or28 (a : Int) (x : UInt8) (h0 : 0 ≤ a) (h1 : a < 268435456) (hx : x.toNat < 16) :
    bits .or .u32 a ((x.toNat : Int) % 4294967296 * 268435456 % 4294967296) = a + (x.toNat : Int) * 268435456 := by
  have e1 : (x.toNat : Int) % 4294967296 * 268435456 % 4294967296 = (x.toNat : Int) * 268435456 := by omega
  rw [e1]
  exact or_low _ _ 28 (by omega) (by omega) (by omega) h0 (by omega) (by omega)

/-- What the reading of a number in groups comes to. -/
def UvP (bs : List UInt8) (w : World) (e : Ending) (w' : World) : Prop :=
  w' = w ∧ ((∃ (x k : Nat), uvDec bs = some (x, bs.drop k) ∧ x < 4294967296 ∧ 1 ≤ k ∧ k ≤ 5 ∧ k ≤ bs.length ∧ e = .returned (.tuple #[.int .u32 x, .int .i64 k])) ∨
    (uvDec bs = none ∧ ∃ k : Int, k ≤ 0 ∧ -5 ≤ k ∧ e = .returned (.tuple #[.int .u32 0, .int .i64 k])))
theorem UvP.no {bs : List UInt8} {w : World} (k : Int) (h : uvDec bs = none) (h0 : k ≤ 0) (h1 : -5 ≤ k) : UvP bs w (.returned (.tuple #[.int .u32 0, .int .i64 k])) w := ⟨rfl, .inr ⟨h, k, h0, h1, rfl⟩⟩
theorem UvP.yes {bs : List UInt8} {w : World} {V : Int} (x k : Nat) (h : uvDec bs = some (x, bs.drop k)) (hx : x < 4294967296) (h1 : 1 ≤ k) (h5 : k ≤ 5) (hk : k ≤ bs.length) (hV : V = x) : UvP bs w (.returned (.tuple #[.int .u32 V, .int .i64 k])) w :=
  ⟨rfl, .inl ⟨x, k, h, hx, h1, h5, hk, by rw [hV]⟩⟩

end Go.Proofs.YtcanhgcceagplaaDoor.Kf
