/- A number in groups of seven bits is read. -/
import Derived.Test.YtpefipjgcpchaaaGreatDoorRKbA
import Derived.Test.YtpefipjgcpchaaaGreatDoorRProg
import Derived.Lib.Hide
import Derived.WalkMore
import Derived.ScopeJumps
import Derived.Laws.BitsLemmas
namespace Go.Proofs.YtpefipjgcpchaaaGreatDoorR.Kf
set_option linter.unusedVariables false
set_option linter.unusedSimpArgs false
open Go Go.RowKit

theorem wraps_u32 (n : Int) (h₀ : 0 ≤ n) (h₁ : n < 2 ^ 32) : IntKind.u32.wrap n = n := by rw [IntKind.wrap_u32]; omega
theorem or_low (x y : Int) (i : Nat) (hx₀ : 0 ≤ x) (hx : x % 2 ^ i = 0) (hx₁ : x < 2 ^ 32) (hy₀ : 0 ≤ y) (hy : y < 2 ^ i) (hy₁ : y < 2 ^ 32) : bits .or .u32 y x = y + x := by
  have h := bits_join .u32 32 (by decide) wraps_u32 i x y hx₀ hx hx₁ hy₀ hy hy₁
  obtain ⟨a, rfl⟩ := Int.eq_ofNat_of_zero_le hx₀
  obtain ⟨b, rfl⟩ := Int.eq_ofNat_of_zero_le hy₀
  have e1 := (bits_nat .u32 32 (by decide) wraps_u32 a b (by exact_mod_cast hx₁) (by exact_mod_cast hy₁)).2
  have e2 := (bits_nat .u32 32 (by decide) wraps_u32 b a (by exact_mod_cast hy₁) (by exact_mod_cast hx₁)).2
  rw [e2, Nat.or_comm, ← e1, h, Int.add_comm]
theorem and127 (x : UInt8) : bits .and .u8 (x.toNat : Int) 127 = (x.toNat : Int) % 128 :=
  bits_mask .u8 8 (by decide) wraps_u8 7 (by decide) _ (by omega) (by have := x.toNat_lt; omega)
theorem and128 (x : UInt8) : (bits .and .u8 (x.toNat : Int) 128 == 0) = decide (x.toNat < 128) := by
  have h := x.toNat_lt
  have e0 : bits .and .u8 (x.toNat : Int) 128 = ((x.toNat &&& 128 : Nat) : Int) := (bits_nat .u8 8 (by decide) wraps_u8 x.toNat 128 h (by decide)).1
  rw [e0]
  have e : ∀ m : Fin 256, (((m.1 &&& 128 : Nat) : Int) == 0) = decide (m.1 < 128) := by decide +kernel
  exact e ⟨x.toNat, h⟩
theorem and128n (x : UInt8) (h : ¬ x.toNat < 128) : (bits .and .u8 (x.toNat : Int) 128 == 0) = false := by rw [and128]; simpa using h
theorem and128y (x : UInt8) (h : x.toNat < 128) : (bits .and .u8 (x.toNat : Int) 128 == 0) = true := by rw [and128]; simpa using h

theorem or7 (a : Int) (x : UInt8) (i : Nat) (p : Int) (hp : p = 2 ^ i) (h0 : 0 ≤ a) (h1 : a < p) (hi : 128 * p ≤ 4294967296) :
    bits .or .u32 a (bits .and .u8 (x.toNat : Int) 127 % 4294967296 * p % 4294967296) = a + (x.toNat : Int) % 128 * p := by
  rw [and127]
  have r0 : 0 ≤ (x.toNat : Int) % 128 := by omega
  have r1 : (x.toNat : Int) % 128 ≤ 127 := by omega
  have e1 : (x.toNat : Int) % 128 % 4294967296 = (x.toNat : Int) % 128 := by omega
  rw [e1]
  generalize (x.toNat : Int) % 128 = y at r0 r1
  have hp0 : 0 < p := by omega
  have m0 : 0 ≤ y * p := Int.mul_nonneg r0 (Int.le_of_lt hp0)
  have m1 : y * p ≤ 127 * p := Int.mul_le_mul_of_nonneg_right r1 (Int.le_of_lt hp0)
  rw [Int.emod_eq_of_lt m0 (by omega)]
  exact or_low _ _ i m0 (by rw [hp]; exact Int.mul_emod_left _ _) (by omega) h0 (by omega) (by omega)
theorem or28 (a : Int) (x : UInt8) (h0 : 0 ≤ a) (h1 : a < 268435456) (hx : x.toNat < 16) :
    bits .or .u32 a ((x.toNat : Int) % 4294967296 * 268435456 % 4294967296) = a + (x.toNat : Int) * 268435456 := by
  have e1 : (x.toNat : Int) % 4294967296 * 268435456 % 4294967296 = (x.toNat : Int) * 268435456 := by omega
  rw [e1]
  exact or_low _ _ 28 (by omega) (by omega) (by omega) h0 (by omega) (by omega)

/-- What the reading of a number in groups comes to. -/
def UvP (bs : List UInt8) (w : World) (e : Ending) (w' : World) : Prop :=
  w' = w ∧ ((∃ (x k : Nat), uvDec bs = some (x, bs.drop k) ∧ x < 4294967296 ∧ 1 ≤ k ∧ k ≤ 5 ∧ k ≤ bs.length ∧ e = .returned (.tuple #[.int .u32 x, .int .i64 k])) ∨
    (uvDec bs = none ∧ ∃ k : Int, k ≤ 0 ∧ -5 ≤ k ∧ e = .returned (.tuple #[.int .u32 0, .int .i64 k])))
theorem UvP.no {bs : List UInt8} {w : World} (k : Int) (h : uvDec bs = none) (h0 : k ≤ 0) (h1 : -5 ≤ k) : UvP bs w (.returned (.tuple #[.int .u32 0, .int .i64 k])) w := ⟨rfl, .inr ⟨h, k, h0, h1, rfl⟩⟩
theorem UvP.yes {bs : List UInt8} {w : World} {V : Int} (x k : Nat) (h : uvDec bs = some (x, bs.drop k)) (hx : x < 4294967296) (h1 : 1 ≤ k) (h5 : k ≤ 5) (hk : k ≤ bs.length) (hV : V = x) : UvP bs w (.returned (.tuple #[.int .u32 V, .int .i64 k])) w :=
  ⟨rfl, .inl ⟨x, k, h, hx, h1, h5, hk, by rw [hV]⟩⟩

theorem uv_0 (A : Option Addr) (n c : Nat) (w : World) (hn : n = 0)   :
    Calls Tryz.prog 92 #[.slice A n c] w (UvP ([]) w) := by
  subst hn
  go_enter Tryz.func92, Tryz.ntmps92
  go_wp2_with fail
  refine wp_scope_jumps 0 (fun a' w' => w' = w ∧ a'.tmps.size = 87 ∧ a'.defers = [] ∧ gt a' 5 = .int .i64 0) (fun _ _ => 0) rfl ?_ ?_
  · go_wp2_with fail
    go_step3
    exact ⟨rfl, rfl, rfl, rfl, rfl⟩
  · rintro a' w' ⟨rfl, hs, hd, h5⟩
    refine wp_seq (wp_skip ?_)
    refine wp_seq (wp_reg_of [⟨some 86, .move (.tmp 5), none⟩, ⟨some 2, .assign (.const (.int .u32 0)), none⟩, ⟨some 3, .assign (.tmp 86), none⟩] rfl ?_)
    refine wpC_val (runs_move _) (wpC_val (runs_assign _) (wpC_val (runs_assign _) (wpC_nil ?_)))
    refine wp_ret ?_
    simp only [Exit.jump]
    refine bodyPost_ret (v := .tuple #[.int .u32 0, .int .i64 0]) ?_ (by simpa [defers_put] using hd) (UvP.no 0 ?_ (by decide) (by decide))
    · have e2 : (((a'.put (some 86) (a'.eval (.tmp 5))).put (some 2) ((a'.put (some 86) (a'.eval (.tmp 5))).eval (.const (.int .u32 0)))).put (some 3) (((a'.put (some 86) (a'.eval (.tmp 5))).put (some 2) ((a'.put (some 86) (a'.eval (.tmp 5))).eval (.const (.int .u32 0)))).eval (.tmp 86))).tmps = ((a'.tmps.setIfInBounds 86 (.int .i64 0)).setIfInBounds 2 (.int .u32 0)).setIfInBounds 3 (.int .i64 0) := by
        simp only [gt] at h5
        simp [Act.put, Act.eval, h5, hs]
      rw [e2]
      simp [results, Tryz.results92, go_sem, hs]
    · skip
      simp [uvDec, uvDecF]
theorem uv_y1 (D o n c : Nat) (x0 : UInt8) (l : List UInt8) (w : World) (hn : 1 ≤ n) (k0 : w.cell? ⟨D, o, none⟩ = some (.int .u8 x0.toNat)) (h0 : x0.toNat < 128) :
    Calls Tryz.prog 92 #[.slice (some ⟨D, o, none⟩) n c] w (UvP (x0 :: l) w) := by
  have t1 : decide ((n : Int) < 1) = false := by simp; omega
  have p0 : (0 : Int) < n := by omega
  have q0 : 0 < n := by omega
  have b0 := and128y x0 h0
  have H0 := Lib.hid h0
  clear h0
  have HN := Lib.hid hn
  clear hn
  go_enter Tryz.func92, Tryz.ntmps92
  go_wp2_with fail
  refine wp_scope_jumps 0 (fun _ _ => False) (fun _ _ => 0) rfl ?_ ?_
  · go_wp2_with fail
    simp only [Exit.jump]
    go_ret2
    have h0 := H0.out
    have z0 := x0.toNat_lt
    refine UvP.yes (x0.toNat * 1) 1 (by simp [uvDec, uvDecF, h0]) (by omega) (by decide) (by decide) (by simp) ?_
    rw [and127]
    omega
  · exact fun _ _ h => h.elim
theorem uv_n1 (D o n c : Nat) (x0 : UInt8) (w : World) (hn : n = 1) (k0 : w.cell? ⟨D, o, none⟩ = some (.int .u8 x0.toNat)) (h0 : ¬ x0.toNat < 128) :
    Calls Tryz.prog 92 #[.slice (some ⟨D, o, none⟩) n c] w (UvP (x0 :: []) w) := by
  subst hn
  have b0 := and128n x0 h0
  have H0 := Lib.hid h0
  clear h0
  go_enter Tryz.func92, Tryz.ntmps92
  go_wp2_with fail
  refine wp_scope_jumps 0 (fun a' w' => w' = w ∧ a'.tmps.size = 87 ∧ a'.defers = [] ∧ gt a' 5 = .int .i64 0) (fun _ _ => 0) rfl ?_ ?_
  · go_wp2_with fail
    go_step3
    exact ⟨rfl, rfl, rfl, rfl, rfl⟩
  · rintro a' w' ⟨rfl, hs, hd, h5⟩
    refine wp_seq (wp_skip ?_)
    refine wp_seq (wp_reg_of [⟨some 86, .move (.tmp 5), none⟩, ⟨some 2, .assign (.const (.int .u32 0)), none⟩, ⟨some 3, .assign (.tmp 86), none⟩] rfl ?_)
    refine wpC_val (runs_move _) (wpC_val (runs_assign _) (wpC_val (runs_assign _) (wpC_nil ?_)))
    refine wp_ret ?_
    simp only [Exit.jump]
    refine bodyPost_ret (v := .tuple #[.int .u32 0, .int .i64 0]) ?_ (by simpa [defers_put] using hd) (UvP.no 0 ?_ (by decide) (by decide))
    · have e2 : (((a'.put (some 86) (a'.eval (.tmp 5))).put (some 2) ((a'.put (some 86) (a'.eval (.tmp 5))).eval (.const (.int .u32 0)))).put (some 3) (((a'.put (some 86) (a'.eval (.tmp 5))).put (some 2) ((a'.put (some 86) (a'.eval (.tmp 5))).eval (.const (.int .u32 0)))).eval (.tmp 86))).tmps = ((a'.tmps.setIfInBounds 86 (.int .i64 0)).setIfInBounds 2 (.int .u32 0)).setIfInBounds 3 (.int .i64 0) := by
        simp only [gt] at h5
        simp [Act.put, Act.eval, h5, hs]
      rw [e2]
      simp [results, Tryz.results92, go_sem, hs]
    · skip
      have h0 := H0.out
      simp [uvDec, uvDecF, h0]
theorem uv_y2 (D o n c : Nat) (x0 x1 : UInt8) (l : List UInt8) (w : World) (hn : 2 ≤ n) (k0 : w.cell? ⟨D, o, none⟩ = some (.int .u8 x0.toNat)) (k1 : w.cell? ⟨D, o + 1, none⟩ = some (.int .u8 x1.toNat)) (h0 : ¬ x0.toNat < 128) (h1 : x1.toNat < 128) :
    Calls Tryz.prog 92 #[.slice (some ⟨D, o, none⟩) n c] w (UvP (x0 :: x1 :: l) w) := by
  have t1 : decide ((n : Int) < 1) = false := by simp; omega
  have p0 : (0 : Int) < n := by omega
  have q0 : 0 < n := by omega
  have t2 : decide ((n : Int) < 2) = false := by simp; omega
  have p1 : (1 : Int) < n := by omega
  have q1 : 1 < n := by omega
  have b0 := and128n x0 h0
  have b1 := and128y x1 h1
  have H0 := Lib.hid h0
  clear h0
  have H1 := Lib.hid h1
  clear h1
  have HN := Lib.hid hn
  clear hn
  go_enter Tryz.func92, Tryz.ntmps92
  go_wp2_with fail
  refine wp_scope_jumps 0 (fun _ _ => False) (fun _ _ => 0) rfl ?_ ?_
  · go_wp2_with fail
    simp only [Exit.jump]
    go_ret2
    have h0 := H0.out
    have h1 := H1.out
    have z0 := x0.toNat_lt
    have z1 := x1.toNat_lt
    refine UvP.yes ((x0.toNat - 128) * 1 + (x1.toNat * 128)) 2 (by simp [uvDec, uvDecF, h0, h1]) (by omega) (by decide) (by decide) (by simp) ?_
    rw [and127 x0, show (x0.toNat : Int) % 128 % 4294967296 = (x0.toNat : Int) % 128 by omega]
    rw [or7 _ x1 7 128 (by decide) (by omega) (by omega) (by decide)]
    omega
  · exact fun _ _ h => h.elim
theorem uv_n2 (D o n c : Nat) (x0 x1 : UInt8) (w : World) (hn : n = 2) (k0 : w.cell? ⟨D, o, none⟩ = some (.int .u8 x0.toNat)) (k1 : w.cell? ⟨D, o + 1, none⟩ = some (.int .u8 x1.toNat)) (h0 : ¬ x0.toNat < 128) (h1 : ¬ x1.toNat < 128) :
    Calls Tryz.prog 92 #[.slice (some ⟨D, o, none⟩) n c] w (UvP (x0 :: x1 :: []) w) := by
  subst hn
  have b0 := and128n x0 h0
  have b1 := and128n x1 h1
  have H0 := Lib.hid h0
  clear h0
  have H1 := Lib.hid h1
  clear h1
  go_enter Tryz.func92, Tryz.ntmps92
  go_wp2_with fail
  refine wp_scope_jumps 0 (fun a' w' => w' = w ∧ a'.tmps.size = 87 ∧ a'.defers = [] ∧ gt a' 5 = .int .i64 0) (fun _ _ => 0) rfl ?_ ?_
  · go_wp2_with fail
    go_step3
    exact ⟨rfl, rfl, rfl, rfl, rfl⟩
  · rintro a' w' ⟨rfl, hs, hd, h5⟩
    refine wp_seq (wp_skip ?_)
    refine wp_seq (wp_reg_of [⟨some 86, .move (.tmp 5), none⟩, ⟨some 2, .assign (.const (.int .u32 0)), none⟩, ⟨some 3, .assign (.tmp 86), none⟩] rfl ?_)
    refine wpC_val (runs_move _) (wpC_val (runs_assign _) (wpC_val (runs_assign _) (wpC_nil ?_)))
    refine wp_ret ?_
    simp only [Exit.jump]
    refine bodyPost_ret (v := .tuple #[.int .u32 0, .int .i64 0]) ?_ (by simpa [defers_put] using hd) (UvP.no 0 ?_ (by decide) (by decide))
    · have e2 : (((a'.put (some 86) (a'.eval (.tmp 5))).put (some 2) ((a'.put (some 86) (a'.eval (.tmp 5))).eval (.const (.int .u32 0)))).put (some 3) (((a'.put (some 86) (a'.eval (.tmp 5))).put (some 2) ((a'.put (some 86) (a'.eval (.tmp 5))).eval (.const (.int .u32 0)))).eval (.tmp 86))).tmps = ((a'.tmps.setIfInBounds 86 (.int .i64 0)).setIfInBounds 2 (.int .u32 0)).setIfInBounds 3 (.int .i64 0) := by
        simp only [gt] at h5
        simp [Act.put, Act.eval, h5, hs]
      rw [e2]
      simp [results, Tryz.results92, go_sem, hs]
    · skip
      have h0 := H0.out
      have h1 := H1.out
      simp [uvDec, uvDecF, h0, h1]
theorem uv_y3 (D o n c : Nat) (x0 x1 x2 : UInt8) (l : List UInt8) (w : World) (hn : 3 ≤ n) (k0 : w.cell? ⟨D, o, none⟩ = some (.int .u8 x0.toNat)) (k1 : w.cell? ⟨D, o + 1, none⟩ = some (.int .u8 x1.toNat)) (k2 : w.cell? ⟨D, o + 2, none⟩ = some (.int .u8 x2.toNat)) (h0 : ¬ x0.toNat < 128) (h1 : ¬ x1.toNat < 128) (h2 : x2.toNat < 128) :
    Calls Tryz.prog 92 #[.slice (some ⟨D, o, none⟩) n c] w (UvP (x0 :: x1 :: x2 :: l) w) := by
  have t1 : decide ((n : Int) < 1) = false := by simp; omega
  have p0 : (0 : Int) < n := by omega
  have q0 : 0 < n := by omega
  have t2 : decide ((n : Int) < 2) = false := by simp; omega
  have p1 : (1 : Int) < n := by omega
  have q1 : 1 < n := by omega
  have t3 : decide ((n : Int) < 3) = false := by simp; omega
  have p2 : (2 : Int) < n := by omega
  have q2 : 2 < n := by omega
  have b0 := and128n x0 h0
  have b1 := and128n x1 h1
  have b2 := and128y x2 h2
  have H0 := Lib.hid h0
  clear h0
  have H1 := Lib.hid h1
  clear h1
  have H2 := Lib.hid h2
  clear h2
  have HN := Lib.hid hn
  clear hn
  go_enter Tryz.func92, Tryz.ntmps92
  go_wp2_with fail
  refine wp_scope_jumps 0 (fun _ _ => False) (fun _ _ => 0) rfl ?_ ?_
  · go_wp2_with fail
    simp only [Exit.jump]
    go_ret2
    have h0 := H0.out
    have h1 := H1.out
    have h2 := H2.out
    have z0 := x0.toNat_lt
    have z1 := x1.toNat_lt
    have z2 := x2.toNat_lt
    refine UvP.yes ((x0.toNat - 128) * 1 + ((x1.toNat - 128) * 128 + (x2.toNat * 16384))) 3 (by simp [uvDec, uvDecF, h0, h1, h2]) (by omega) (by decide) (by decide) (by simp) ?_
    rw [and127 x0, show (x0.toNat : Int) % 128 % 4294967296 = (x0.toNat : Int) % 128 by omega]
    rw [or7 _ x1 7 128 (by decide) (by omega) (by omega) (by decide)]
    rw [or7 _ x2 14 16384 (by decide) (by omega) (by omega) (by decide)]
    omega
  · exact fun _ _ h => h.elim
theorem uv_n3 (D o n c : Nat) (x0 x1 x2 : UInt8) (w : World) (hn : n = 3) (k0 : w.cell? ⟨D, o, none⟩ = some (.int .u8 x0.toNat)) (k1 : w.cell? ⟨D, o + 1, none⟩ = some (.int .u8 x1.toNat)) (k2 : w.cell? ⟨D, o + 2, none⟩ = some (.int .u8 x2.toNat)) (h0 : ¬ x0.toNat < 128) (h1 : ¬ x1.toNat < 128) (h2 : ¬ x2.toNat < 128) :
    Calls Tryz.prog 92 #[.slice (some ⟨D, o, none⟩) n c] w (UvP (x0 :: x1 :: x2 :: []) w) := by
  subst hn
  have b0 := and128n x0 h0
  have b1 := and128n x1 h1
  have b2 := and128n x2 h2
  have H0 := Lib.hid h0
  clear h0
  have H1 := Lib.hid h1
  clear h1
  have H2 := Lib.hid h2
  clear h2
  go_enter Tryz.func92, Tryz.ntmps92
  go_wp2_with fail
  refine wp_scope_jumps 0 (fun a' w' => w' = w ∧ a'.tmps.size = 87 ∧ a'.defers = [] ∧ gt a' 5 = .int .i64 0) (fun _ _ => 0) rfl ?_ ?_
  · go_wp2_with fail
    go_step3
    exact ⟨rfl, rfl, rfl, rfl, rfl⟩
  · rintro a' w' ⟨rfl, hs, hd, h5⟩
    refine wp_seq (wp_skip ?_)
    refine wp_seq (wp_reg_of [⟨some 86, .move (.tmp 5), none⟩, ⟨some 2, .assign (.const (.int .u32 0)), none⟩, ⟨some 3, .assign (.tmp 86), none⟩] rfl ?_)
    refine wpC_val (runs_move _) (wpC_val (runs_assign _) (wpC_val (runs_assign _) (wpC_nil ?_)))
    refine wp_ret ?_
    simp only [Exit.jump]
    refine bodyPost_ret (v := .tuple #[.int .u32 0, .int .i64 0]) ?_ (by simpa [defers_put] using hd) (UvP.no 0 ?_ (by decide) (by decide))
    · have e2 : (((a'.put (some 86) (a'.eval (.tmp 5))).put (some 2) ((a'.put (some 86) (a'.eval (.tmp 5))).eval (.const (.int .u32 0)))).put (some 3) (((a'.put (some 86) (a'.eval (.tmp 5))).put (some 2) ((a'.put (some 86) (a'.eval (.tmp 5))).eval (.const (.int .u32 0)))).eval (.tmp 86))).tmps = ((a'.tmps.setIfInBounds 86 (.int .i64 0)).setIfInBounds 2 (.int .u32 0)).setIfInBounds 3 (.int .i64 0) := by
        simp only [gt] at h5
        simp [Act.put, Act.eval, h5, hs]
      rw [e2]
      simp [results, Tryz.results92, go_sem, hs]
    · skip
      have h0 := H0.out
      have h1 := H1.out
      have h2 := H2.out
      simp [uvDec, uvDecF, h0, h1, h2]
theorem uv_y4 (D o n c : Nat) (x0 x1 x2 x3 : UInt8) (l : List UInt8) (w : World) (hn : 4 ≤ n) (k0 : w.cell? ⟨D, o, none⟩ = some (.int .u8 x0.toNat)) (k1 : w.cell? ⟨D, o + 1, none⟩ = some (.int .u8 x1.toNat)) (k2 : w.cell? ⟨D, o + 2, none⟩ = some (.int .u8 x2.toNat)) (k3 : w.cell? ⟨D, o + 3, none⟩ = some (.int .u8 x3.toNat)) (h0 : ¬ x0.toNat < 128) (h1 : ¬ x1.toNat < 128) (h2 : ¬ x2.toNat < 128) (h3 : x3.toNat < 128) :
    Calls Tryz.prog 92 #[.slice (some ⟨D, o, none⟩) n c] w (UvP (x0 :: x1 :: x2 :: x3 :: l) w) := by
  have t1 : decide ((n : Int) < 1) = false := by simp; omega
  have p0 : (0 : Int) < n := by omega
  have q0 : 0 < n := by omega
  have t2 : decide ((n : Int) < 2) = false := by simp; omega
  have p1 : (1 : Int) < n := by omega
  have q1 : 1 < n := by omega
  have t3 : decide ((n : Int) < 3) = false := by simp; omega
  have p2 : (2 : Int) < n := by omega
  have q2 : 2 < n := by omega
  have t4 : decide ((n : Int) < 4) = false := by simp; omega
  have p3 : (3 : Int) < n := by omega
  have q3 : 3 < n := by omega
  have b0 := and128n x0 h0
  have b1 := and128n x1 h1
  have b2 := and128n x2 h2
  have b3 := and128y x3 h3
  have H0 := Lib.hid h0
  clear h0
  have H1 := Lib.hid h1
  clear h1
  have H2 := Lib.hid h2
  clear h2
  have H3 := Lib.hid h3
  clear h3
  have HN := Lib.hid hn
  clear hn
  go_enter Tryz.func92, Tryz.ntmps92
  go_wp2_with fail
  refine wp_scope_jumps 0 (fun _ _ => False) (fun _ _ => 0) rfl ?_ ?_
  · go_wp2_with fail
    simp only [Exit.jump]
    go_ret2
    have h0 := H0.out
    have h1 := H1.out
    have h2 := H2.out
    have h3 := H3.out
    have z0 := x0.toNat_lt
    have z1 := x1.toNat_lt
    have z2 := x2.toNat_lt
    have z3 := x3.toNat_lt
    refine UvP.yes ((x0.toNat - 128) * 1 + ((x1.toNat - 128) * 128 + ((x2.toNat - 128) * 16384 + (x3.toNat * 2097152)))) 4 (by simp [uvDec, uvDecF, h0, h1, h2, h3]) (by omega) (by decide) (by decide) (by simp) ?_
    rw [and127 x0, show (x0.toNat : Int) % 128 % 4294967296 = (x0.toNat : Int) % 128 by omega]
    rw [or7 _ x1 7 128 (by decide) (by omega) (by omega) (by decide)]
    rw [or7 _ x2 14 16384 (by decide) (by omega) (by omega) (by decide)]
    rw [or7 _ x3 21 2097152 (by decide) (by omega) (by omega) (by decide)]
    omega
  · exact fun _ _ h => h.elim
theorem uv_n4 (D o n c : Nat) (x0 x1 x2 x3 : UInt8) (w : World) (hn : n = 4) (k0 : w.cell? ⟨D, o, none⟩ = some (.int .u8 x0.toNat)) (k1 : w.cell? ⟨D, o + 1, none⟩ = some (.int .u8 x1.toNat)) (k2 : w.cell? ⟨D, o + 2, none⟩ = some (.int .u8 x2.toNat)) (k3 : w.cell? ⟨D, o + 3, none⟩ = some (.int .u8 x3.toNat)) (h0 : ¬ x0.toNat < 128) (h1 : ¬ x1.toNat < 128) (h2 : ¬ x2.toNat < 128) (h3 : ¬ x3.toNat < 128) :
    Calls Tryz.prog 92 #[.slice (some ⟨D, o, none⟩) n c] w (UvP (x0 :: x1 :: x2 :: x3 :: []) w) := by
  subst hn
  have b0 := and128n x0 h0
  have b1 := and128n x1 h1
  have b2 := and128n x2 h2
  have b3 := and128n x3 h3
  have H0 := Lib.hid h0
  clear h0
  have H1 := Lib.hid h1
  clear h1
  have H2 := Lib.hid h2
  clear h2
  have H3 := Lib.hid h3
  clear h3
  go_enter Tryz.func92, Tryz.ntmps92
  go_wp2_with fail
  refine wp_scope_jumps 0 (fun a' w' => w' = w ∧ a'.tmps.size = 87 ∧ a'.defers = [] ∧ gt a' 5 = .int .i64 0) (fun _ _ => 0) rfl ?_ ?_
  · go_wp2_with fail
    go_step3
    exact ⟨rfl, rfl, rfl, rfl, rfl⟩
  · rintro a' w' ⟨rfl, hs, hd, h5⟩
    refine wp_seq (wp_skip ?_)
    refine wp_seq (wp_reg_of [⟨some 86, .move (.tmp 5), none⟩, ⟨some 2, .assign (.const (.int .u32 0)), none⟩, ⟨some 3, .assign (.tmp 86), none⟩] rfl ?_)
    refine wpC_val (runs_move _) (wpC_val (runs_assign _) (wpC_val (runs_assign _) (wpC_nil ?_)))
    refine wp_ret ?_
    simp only [Exit.jump]
    refine bodyPost_ret (v := .tuple #[.int .u32 0, .int .i64 0]) ?_ (by simpa [defers_put] using hd) (UvP.no 0 ?_ (by decide) (by decide))
    · have e2 : (((a'.put (some 86) (a'.eval (.tmp 5))).put (some 2) ((a'.put (some 86) (a'.eval (.tmp 5))).eval (.const (.int .u32 0)))).put (some 3) (((a'.put (some 86) (a'.eval (.tmp 5))).put (some 2) ((a'.put (some 86) (a'.eval (.tmp 5))).eval (.const (.int .u32 0)))).eval (.tmp 86))).tmps = ((a'.tmps.setIfInBounds 86 (.int .i64 0)).setIfInBounds 2 (.int .u32 0)).setIfInBounds 3 (.int .i64 0) := by
        simp only [gt] at h5
        simp [Act.put, Act.eval, h5, hs]
      rw [e2]
      simp [results, Tryz.results92, go_sem, hs]
    · skip
      have h0 := H0.out
      have h1 := H1.out
      have h2 := H2.out
      have h3 := H3.out
      simp [uvDec, uvDecF, h0, h1, h2, h3]
theorem uv_y5 (D o n c : Nat) (x0 x1 x2 x3 x4 : UInt8) (l : List UInt8) (w : World) (hn : 5 ≤ n) (k0 : w.cell? ⟨D, o, none⟩ = some (.int .u8 x0.toNat)) (k1 : w.cell? ⟨D, o + 1, none⟩ = some (.int .u8 x1.toNat)) (k2 : w.cell? ⟨D, o + 2, none⟩ = some (.int .u8 x2.toNat)) (k3 : w.cell? ⟨D, o + 3, none⟩ = some (.int .u8 x3.toNat)) (k4 : w.cell? ⟨D, o + 4, none⟩ = some (.int .u8 x4.toNat)) (h0 : ¬ x0.toNat < 128) (h1 : ¬ x1.toNat < 128) (h2 : ¬ x2.toNat < 128) (h3 : ¬ x3.toNat < 128) (h4 : x4.toNat < 16) :
    Calls Tryz.prog 92 #[.slice (some ⟨D, o, none⟩) n c] w (UvP (x0 :: x1 :: x2 :: x3 :: x4 :: l) w) := by
  have t1 : decide ((n : Int) < 1) = false := by simp; omega
  have p0 : (0 : Int) < n := by omega
  have q0 : 0 < n := by omega
  have t2 : decide ((n : Int) < 2) = false := by simp; omega
  have p1 : (1 : Int) < n := by omega
  have q1 : 1 < n := by omega
  have t3 : decide ((n : Int) < 3) = false := by simp; omega
  have p2 : (2 : Int) < n := by omega
  have q2 : 2 < n := by omega
  have t4 : decide ((n : Int) < 4) = false := by simp; omega
  have p3 : (3 : Int) < n := by omega
  have q3 : 3 < n := by omega
  have t5 : decide ((n : Int) < 5) = false := by simp; omega
  have p4 : (4 : Int) < n := by omega
  have q4 : 4 < n := by omega
  have b0 := and128n x0 h0
  have b1 := and128n x1 h1
  have b2 := and128n x2 h2
  have b3 := and128n x3 h3
  have b4 : decide ((x4.toNat : Int) ≤ 15) = true := by simp; omega
  have H0 := Lib.hid h0
  clear h0
  have H1 := Lib.hid h1
  clear h1
  have H2 := Lib.hid h2
  clear h2
  have H3 := Lib.hid h3
  clear h3
  have H4 := Lib.hid h4
  clear h4
  have HN := Lib.hid hn
  clear hn
  go_enter Tryz.func92, Tryz.ntmps92
  go_wp2_with fail
  refine wp_scope_jumps 0 (fun _ _ => False) (fun _ _ => 0) rfl ?_ ?_
  · go_wp2_with fail
    simp only [Exit.jump]
    go_ret2
    have h0 := H0.out
    have h1 := H1.out
    have h2 := H2.out
    have h3 := H3.out
    have h4 := H4.out
    have z0 := x0.toNat_lt
    have z1 := x1.toNat_lt
    have z2 := x2.toNat_lt
    have z3 := x3.toNat_lt
    have z4 := x4.toNat_lt
    refine UvP.yes ((x0.toNat - 128) * 1 + ((x1.toNat - 128) * 128 + ((x2.toNat - 128) * 16384 + ((x3.toNat - 128) * 2097152 + (x4.toNat * 268435456))))) 5 (by simp [uvDec, uvDecF, h0, h1, h2, h3, h4]) (by omega) (by decide) (by decide) (by simp) ?_
    rw [and127 x0, show (x0.toNat : Int) % 128 % 4294967296 = (x0.toNat : Int) % 128 by omega]
    rw [or7 _ x1 7 128 (by decide) (by omega) (by omega) (by decide)]
    rw [or7 _ x2 14 16384 (by decide) (by omega) (by omega) (by decide)]
    rw [or7 _ x3 21 2097152 (by decide) (by omega) (by omega) (by decide)]
    rw [or28 _ x4 (by omega) (by omega) h4]
    omega
  · exact fun _ _ h => h.elim
theorem uv_n5 (D o n c : Nat) (x0 x1 x2 x3 x4 : UInt8) (l : List UInt8) (w : World) (hn : 5 ≤ n) (k0 : w.cell? ⟨D, o, none⟩ = some (.int .u8 x0.toNat)) (k1 : w.cell? ⟨D, o + 1, none⟩ = some (.int .u8 x1.toNat)) (k2 : w.cell? ⟨D, o + 2, none⟩ = some (.int .u8 x2.toNat)) (k3 : w.cell? ⟨D, o + 3, none⟩ = some (.int .u8 x3.toNat)) (k4 : w.cell? ⟨D, o + 4, none⟩ = some (.int .u8 x4.toNat)) (h0 : ¬ x0.toNat < 128) (h1 : ¬ x1.toNat < 128) (h2 : ¬ x2.toNat < 128) (h3 : ¬ x3.toNat < 128) (h4 : ¬ x4.toNat < 16) :
    Calls Tryz.prog 92 #[.slice (some ⟨D, o, none⟩) n c] w (UvP (x0 :: x1 :: x2 :: x3 :: x4 :: l) w) := by
  have t1 : decide ((n : Int) < 1) = false := by simp; omega
  have p0 : (0 : Int) < n := by omega
  have q0 : 0 < n := by omega
  have t2 : decide ((n : Int) < 2) = false := by simp; omega
  have p1 : (1 : Int) < n := by omega
  have q1 : 1 < n := by omega
  have t3 : decide ((n : Int) < 3) = false := by simp; omega
  have p2 : (2 : Int) < n := by omega
  have q2 : 2 < n := by omega
  have t4 : decide ((n : Int) < 4) = false := by simp; omega
  have p3 : (3 : Int) < n := by omega
  have q3 : 3 < n := by omega
  have t5 : decide ((n : Int) < 5) = false := by simp; omega
  have p4 : (4 : Int) < n := by omega
  have q4 : 4 < n := by omega
  have b0 := and128n x0 h0
  have b1 := and128n x1 h1
  have b2 := and128n x2 h2
  have b3 := and128n x3 h3
  have b4 : decide ((x4.toNat : Int) ≤ 15) = false := by simp; omega
  have H0 := Lib.hid h0
  clear h0
  have H1 := Lib.hid h1
  clear h1
  have H2 := Lib.hid h2
  clear h2
  have H3 := Lib.hid h3
  clear h3
  have H4 := Lib.hid h4
  clear h4
  have HN := Lib.hid hn
  clear hn
  go_enter Tryz.func92, Tryz.ntmps92
  go_wp2_with fail
  refine wp_scope_jumps 0 (fun _ _ => False) (fun _ _ => 0) rfl ?_ ?_
  · go_wp2_with fail
    go_step3
    go_wp2_with fail
    simp only [Exit.jump]
    go_ret2
    have h0 := H0.out
    have h1 := H1.out
    have h2 := H2.out
    have h3 := H3.out
    have h4 := H4.out
    exact UvP.no (-5) (by simp [uvDec, uvDecF, h0, h1, h2, h3, h4]) (by decide) (by decide)
  · exact fun _ _ h => h.elim

theorem uv_calls {D : Nat} {w : World} {nn : Bool} {v : Value} {bs : List UInt8} (hs : Sp w D nn v bs) : Calls Tryz.prog 92 #[v] w (UvP bs w) := by
  by_cases h : 0 < bs.length
  · obtain ⟨_, o, c, rfl, hc, hcell⟩ := hs.ne h
    match bs, h, hcell with
    | [x0], _, hcell =>
      have k0 : w.cell? ⟨D, o, none⟩ = some (.int .u8 x0.toNat) := hcell 0 x0 rfl
      by_cases h0 : x0.toNat < 128
      · exact uv_y1 D o 1 c x0 [] w (by simp) k0 h0
      · exact uv_n1 D o 1 c x0 w rfl k0 h0
    | x0 :: x1 :: l, _, hcell =>
      have k0 : w.cell? ⟨D, o, none⟩ = some (.int .u8 x0.toNat) := hcell 0 x0 rfl
      have k1 : w.cell? ⟨D, o + 1, none⟩ = some (.int .u8 x1.toNat) := hcell 1 x1 rfl
      by_cases h0 : x0.toNat < 128
      · exact uv_y1 D o _ c x0 (x1 :: l) w (by simp) k0 h0
      by_cases h1 : x1.toNat < 128
      · exact uv_y2 D o _ c x0 x1 l w (by simp) k0 k1 h0 h1
      rcases l with _ | ⟨x2, l⟩
      · exact uv_n2 D o _ c x0 x1 w rfl k0 k1 h0 h1
      have k2 : w.cell? ⟨D, o + 2, none⟩ = some (.int .u8 x2.toNat) := hcell 2 x2 rfl
      by_cases h2 : x2.toNat < 128
      · exact uv_y3 D o _ c x0 x1 x2 l w (by simp) k0 k1 k2 h0 h1 h2
      rcases l with _ | ⟨x3, l⟩
      · exact uv_n3 D o _ c x0 x1 x2 w rfl k0 k1 k2 h0 h1 h2
      have k3 : w.cell? ⟨D, o + 3, none⟩ = some (.int .u8 x3.toNat) := hcell 3 x3 rfl
      by_cases h3 : x3.toNat < 128
      · exact uv_y4 D o _ c x0 x1 x2 x3 l w (by simp) k0 k1 k2 k3 h0 h1 h2 h3
      rcases l with _ | ⟨x4, l⟩
      · exact uv_n4 D o _ c x0 x1 x2 x3 w rfl k0 k1 k2 k3 h0 h1 h2 h3
      have k4 : w.cell? ⟨D, o + 4, none⟩ = some (.int .u8 x4.toNat) := hcell 4 x4 rfl
      by_cases h4 : x4.toNat < 16
      · exact uv_y5 D o _ c x0 x1 x2 x3 x4 l w (by simp) k0 k1 k2 k3 k4 h0 h1 h2 h3 h4
      · exact uv_n5 D o _ c x0 x1 x2 x3 x4 l w (by simp) k0 k1 k2 k3 k4 h0 h1 h2 h3 h4
  · obtain rfl : bs = [] := by cases bs; rfl; simp at h
    obtain ⟨A, c, rfl, hc, hnil⟩ := hs.len
    exact uv_0 A 0 c w rfl

theorem rd_uvarint : UvrC Tryz.prog 67 := by
  refine ⟨⟨_, Tryz.func67, rfl, rfl⟩, fun D rb w nn bs bad h hl => ?_⟩
  obtain ⟨sv, e, hb, hs, hD, hbad⟩ := h
  have hB : RB rb w sv bad e := hb
  obtain ⟨c0, c1, f0, f1⟩ := hB.cells
  have cU := uv_calls hs
  have HB := Lib.hid hB
  have HS := Lib.hid hs
  have HX := Lib.hid hbad
  by_cases hu : uvDec bs = none
  · have HU := Lib.hid hu
    have cU2 : Calls Tryz.prog 92 #[sv] w fun e w' => ∃ k : Int, k ≤ 0 ∧ e = .returned (.tuple #[.int .u32 0, .int .i64 k]) ∧ w' = w := by
      refine cU.mono ?_
      rintro e w' ⟨hw, ⟨x, k, h1, _⟩ | ⟨_, k, h1, _, h2⟩⟩
      · rw [hu] at h1; cases h1
      · exact ⟨k, h1, h2, hw⟩
    have HC := Lib.hid cU2
    clear cU cU2 hu hb hB hs hbad hl
    go_enter Tryz.func67, Tryz.ntmps67
    go_wp2_with (go_at_call 92; refine HC.out.mono ?_; rintro e w' ⟨k, hk, rfl, rfl⟩; have hk2 : decide (k ≤ 0) = true := by simpa using hk)
    go_ret
    exact UvrP.failed hD HB.out (.inr HU.out)
  · obtain ⟨⟨x, r⟩, hx⟩ := Option.ne_none_iff_exists'.mp hu
    have cU2 : Calls Tryz.prog 92 #[sv] w fun e w' => ∃ k : Nat, 1 ≤ k ∧ k ≤ bs.length ∧ x < 4294967296 ∧ r = bs.drop k ∧ e = .returned (.tuple #[.int .u32 x, .int .i64 k]) ∧ w' = w := by
      refine cU.mono ?_
      rintro e w' ⟨hw, ⟨y, k, h1, h2, h3, h4, h5, h6⟩ | ⟨h1, _⟩⟩
      · rw [hx] at h1
        injection h1 with h1
        injection h1 with h1 h7
        subst h1
        exact ⟨k, h3, h5, h2, h7, h6, hw⟩
      · rw [hx] at h1; cases h1
    have HU := Lib.hid hx
    have HC := Lib.hid cU2
    have hne : 0 < bs.length := by
      cases bs with
      | nil => simp [uvDec, uvDecF] at hx
      | cons a l => simp
    obtain ⟨rfl, o, c, rfl, hc, hcell⟩ := hs.ne hne
    obtain rfl : bad = false := by cases bad; rfl; exact absurd (hbad rfl) (by decide)
    have HN := Lib.hid hc
    have HL := Lib.hid hcell
    clear cU cU2 hu hb hB hs hbad hl hx hne hcell hc
    go_enter Tryz.func67, Tryz.ntmps67
    go_wp2_with (go_at_call 92; refine HC.out.mono ?_; rintro e w' ⟨k, hk, hk2, hx4, hr, rfl, rfl⟩; have HR := Lib.hid hr; clear hr; have hkc : k ≤ c := (by have := HN.out; omega); have hk3 : decide (k ≤ 0) = false := (by simp; omega); have hk4 : decide ((k : Int) ≤ 0) = false := (by simp; omega))
    all_goals
      go_ret
      first
      | exact UvrP.ok hD HB.out HN.out hk2 hk hx4 HL.out HU.out HR.out (.inl rfl) (by omega)
      | exact UvrP.ok hD HB.out HN.out hk2 hk hx4 HL.out HU.out HR.out (.inr ⟨rfl, by omega⟩) (by omega)

end Go.Proofs.YtpefipjgcpchaaaGreatDoorR.Kf
