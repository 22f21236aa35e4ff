/- What the reference writes of a message, where its part is known at the tree alone. -/
import Derived.Test.YthlfepgcjomhpaaSpT
namespace Go.Proofs.Ythlfepgcjomhpaa.Kf
set_option linter.unusedVariables false
set_option linter.unusedSimpArgs false
open Go Go.RowKit

set_option maxRecDepth 100000 in
theorem sp_writeT (w : World) (B : Nat) (fs : List Fld) (v : Value) (fx ver : Int) (t : Tr) (ts : List Value) (hB : B ≤ w.heap.size) (hF : FldsC w B fs v) (hT : TrC w B t ts) {out : List UInt8} (hp : ∀ w', Only (fun _ => False) w w' → Calls Try.prog 32 #[v, .int .i64 ver, .bool (fxOf fx ver), .agg ts.toArray] w' (SpP 5 w' out)) :
    Calls Try.prog 19 #[.agg #[v, .int .i64 fx], .int .i64 ver, .agg ts.toArray] w (SpP 5 w out) := by
  obtain ⟨n, A1, n1, c1, nl, A2, n2, c2, A3, n3, c3, rfl⟩ := hT.form
  obtain ⟨f, hs, _⟩ := id hF
  obtain ⟨AS, cS, rfl, _⟩ := hs.sl
  have hp' := hp
  clear hp hF hT hs hB
  unfold fxOf at hp'
  by_cases h0 : 0 ≤ fx
  · by_cases h1 : fx ≤ ver
    · have t0 : decide (0 ≤ fx) = true := by simpa using h0
      have t1 : decide (fx ≤ ver) = true := by simpa using h1
      rw [t0, t1] at hp'
      have HP := Lib.hid hp'
      clear hp' h0 h1
      go_enter Try.func19, Try.ntmps19
      go_wp2_with (go_at_call 32; refine (HP.out _ ?_).mono ?_; (exact ((Only.refl _ _).alloc _).alloc _); rintro e1 w1 h1; have H1 := Lib.hid (h1.up (((Only.refl _ _).alloc _).alloc _ : Only (fun _ => False) w _)); clear h1; obtain ⟨v1, rfl, h1⟩ := H1.out; clear h1)
      go_ret
      exact H1.out
    · have t0 : decide (0 ≤ fx) = true := by simpa using h0
      have t1 : decide (fx ≤ ver) = false := by simpa using h1
      rw [t0, t1] at hp'
      have HP := Lib.hid hp'
      clear hp' h0 h1
      go_enter Try.func19, Try.ntmps19
      go_wp2_with (go_at_call 32; refine (HP.out _ ?_).mono ?_; (exact ((Only.refl _ _).alloc _).alloc _); rintro e1 w1 h1; have H1 := Lib.hid (h1.up (((Only.refl _ _).alloc _).alloc _ : Only (fun _ => False) w _)); clear h1; obtain ⟨v1, rfl, h1⟩ := H1.out; clear h1)
      go_ret
      exact H1.out
  · have t0 : decide (0 ≤ fx) = false := by simpa using h0
    rw [t0] at hp'
    have HP := Lib.hid hp'
    clear hp' h0
    go_enter Try.func19, Try.ntmps19
    go_wp2_with (go_at_call 32; refine (HP.out _ ?_).mono ?_; (exact ((Only.refl _ _).alloc _).alloc _); rintro e1 w1 h1; have H1 := Lib.hid (h1.up (((Only.refl _ _).alloc _).alloc _ : Only (fun _ => False) w _)); clear h1; obtain ⟨v1, rfl, h1⟩ := H1.out; clear h1)
    go_ret
    exact H1.out

end Go.Proofs.Ythlfepgcjomhpaa.Kf
