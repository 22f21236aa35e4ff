/- The laws' own small functions: what a tree's size tells (either answer will do); a version; and what a list of tags is in memory. -/
import Derived.Test.YtpefipjgcpchaaaGreatDoorRMsgV
import Derived.Test.YtpefipjgcpchaaaGreatDoorRLawA
import Derived.Test.YtpefipjgcpchaaaGreatDoorRPS
import Derived.Test.YtpefipjgcpchaaaGreatDoorRSpS
import Derived.Handy
namespace Go.Proofs.YtpefipjgcpchaaaGreatDoorR.Kf
set_option linter.unusedVariables false
set_option linter.unusedSimpArgs false
open Go Go.RowKit

/-- Some answer. -/
def BoolP (w : World) (e : Ending) (w' : World) : Prop := ∃ b, e = .returned (.bool b) ∧ Only (fun _ => False) w w'
set_option maxRecDepth 100000 in
theorem fits4 (w : World) (k : Int) (A : Option Addr) (n c : Nat) : Calls Tryz.prog 29 #[.agg #[.int .u32 k, .slice A n c]] w (BoolP w) := by
  go_enter Tryz.func29, Tryz.ntmps29
  go_wp2_with fail
  all_goals go_ret
  all_goals exact ⟨_, rfl, (Only.refl _ _).alloc _⟩
set_option maxRecDepth 100000 in
theorem fits3 (w : World) (B : Nat) (u : List (Nat × List UInt8)) (v : Value) (hB : B ≤ w.heap.size) (hU : TgsC w B u v) : Calls Tryz.prog 15 #[v] w (BoolP w) := by
  obtain ⟨ff, hsl, hel⟩ := id hU
  obtain ⟨A, c, rfl, _⟩ := hsl.sl
  have HB := Lib.hid hB
  have HU := Lib.hid hU
  clear hB hU hsl hel
  by_cases hbig : ((u.length : Int) > 2147483647)
  · go_enter Tryz.func15, Tryz.ntmps15
    go_wp2_with fail
    go_ret
    exact ⟨_, rfl, Only.refl _ _⟩
  go_enter Tryz.func15, Tryz.ntmps15
  go_wp2_with fail
  go_loopw [10] (fun i wr => ∃ k : Nat, k ≤ u.length ∧ i = .int .i64 k ∧ Only (fun _ => False) w wr) (fun i _ => u.length - (intOf i).toNat)
  case atStart => exact ⟨0, Nat.zero_le _, rfl, Only.refl _ _⟩
  case round =>
    obtain ⟨k, hk, rfl, honly⟩ := hrel
    have HW := Lib.hid honly
    clear honly
    by_cases hlt : k < u.length
    · obtain ⟨ff, hsl, hel⟩ := HU.out
      obtain ⟨b, o, c', e', _, hbB, hlen, hcell⟩ := (hsl.keep (HW.out.kept0 HB.out)).lit (by decide) hlt
      obtain ⟨_, vv, hv, hoc⟩ := hel k _ (List.getElem?_eq_getElem hlt)
      obtain ⟨A1, c1, rfl, _⟩ := hoc.sl
      injection e' with e1 _ e3
      subst e1; subst e3
      have x0 : wr.cell? ⟨b, o + k * 2, none⟩ = some (.int .u32 (u[k].1 : Int)) := hcell 0 _ (by rw [hv]; rfl)
      have x1 : wr.cell? ⟨b, o + k * 2 + 1, none⟩ = some (.slice A1 u[k].2.length c1) := hcell 1 _ (by rw [hv]; rfl)
      clear hcell hel hsl hoc hv hlen
      generalize (u[k].1 : Int) = key at x0
      generalize u[k].2.length = n1 at x1
      have HbB := Lib.hid hbB
      have hb' : b < wr.heap.size := by have := HB.out; have := HW.out.size; omega
      clear hbB
      have hlt' : (k : Int) < (u.length : Int) := by omega
      have hw64 : wrap64 ((k : Int) + 1) = (k : Int) + 1 := by unfold wrap64; omega
      go_wp2_with (go_at_call 29; refine (fits4 _ _ _ _ _).mono ?_; rintro e1 w1 ⟨bb, rfl, hw1⟩; have HW1 := Lib.hid hw1; clear hw1; cases bb)
      · go_ret
        exact ⟨_, rfl, HW.out.trans (((Only.refl (fun _ => False) wr).alloc _).trans HW1.out)⟩
      · go_roundw
        case rel => exact ⟨k + 1, hlt, by go_num, HW.out.trans (((Only.refl (fun _ => False) wr).alloc _).trans HW1.out)⟩
        case measure => simp [intOf]; omega
    · have hk2 : k = u.length := by omega
      subst hk2
      have hlt' : ¬ ((u.length : Int) < (u.length : Int)) := by omega
      go_wp2_with fail
      go_ret
      exact ⟨_, rfl, HW.out⟩
set_option maxRecDepth 100000 in
theorem fits2 (w : World) (B : Nat) (t : Tr) (ts : List Value) (hB : B ≤ w.heap.size) (hT : TrC w B t ts) : Calls Tryz.prog 5 #[.agg ts.toArray] w (BoolP w) := by
  cases hT with
  | @mk n s nl l u vs vl vu fl fu h0 h1 hs hl hL hu hU =>
  obtain ⟨A1, c1, rfl, _⟩ := hs.sl
  obtain ⟨A2, c2, rfl, _⟩ := hl.sl
  obtain ⟨A3, c3, e3, _⟩ := hu.sl
  have c3' := Lib.hid (fun w' (hw : Only (fun _ => False) w w') => fits3 w' B u vu (Nat.le_trans hB hw.size) ⟨fu, hu.keep (hw.kept0 hB), fun j x hx => let ⟨a, vv, b, c⟩ := hU j x hx; ⟨a, vv, b, c.keep (hw.kept0 hB)⟩⟩)
  clear hs hl hL hu hU h0 h1 hB
  subst e3
  generalize s.length = n1 at *
  generalize l.length = n2 at *
  generalize u.length = n3 at *
  go_enter Tryz.func5, Tryz.ntmps5
  go_wp2_with (go_at_call 15; refine (c3'.out _ ?_).mono ?_; (exact (Only.refl _ _).alloc _); rintro e1 w1 ⟨bb, rfl, hw1⟩; have HW1 := Lib.hid hw1; clear hw1 c3'; cases bb)
  all_goals go_ret
  all_goals first | exact ⟨_, rfl, (Only.refl _ _).alloc _⟩ | exact ⟨_, rfl, ((Only.refl (fun _ => False) w).alloc _).trans HW1.out⟩
set_option maxRecDepth 100000 in
/-- A version: the number's rest. -/
theorem version_c (w : World) (n mx : Int) (hn0 : 0 ≤ n) (hn1 : n < 256) (h0 : 0 ≤ mx) (h1 : mx ≤ 32767) : Calls Tryz.prog 9 #[.int .u8 n, .int .i64 mx] w fun e w' => e = .returned (.int .i64 (n % (mx + 1))) ∧ w' = w := by
  have e1 : IntKind.i64.wrap n = n := by unfold IntKind.wrap; simp [IntKind.signed, IntKind.bits]; omega
  have e2 : wrap64 (mx + 1) = mx + 1 := by unfold wrap64; omega
  have e3 : ¬ (mx + 1 = 0) := by omega
  have e4 : Int.tmod n (mx + 1) = n % (mx + 1) := Int.tmod_eq_emod_of_nonneg hn0
  have e5 : wrap64 (n % (mx + 1)) = n % (mx + 1) := by
    have := Int.emod_nonneg n e3
    have := Int.emod_lt_of_pos n (show (0 : Int) < mx + 1 by omega)
    unfold wrap64; omega
  go_enter Tryz.func9, Tryz.ntmps9
  go_wp2_with fail
  go_ret
  exact ⟨rfl, rfl⟩
end Go.Proofs.YtpefipjgcpchaaaGreatDoorR.Kf
