/- The reference: whole messages; what stands ahead of a thing that is kept; octets compared. -/
import Derived.Test.YtidhhlncmegjaaaDoorSpE
namespace Go.Proofs.YtidhhlncmegjaaaDoor.Kf
set_option linter.unusedVariables false
set_option linter.unusedSimpArgs false
open Go Go.RowKit

set_option maxRecDepth 100000 in
theorem sp_same (w : World) (B : Nat) (v u : Value) (s : List UInt8) (hB : B ≤ w.heap.size) (hv : Oc w B v s) (hu : Oc w B u s) (hl : s.length ≤ lim2) : Calls Tryd.prog 21 #[v, u] w fun e w' => e = .returned (.bool true) ∧ Only (fun _ => False) w w' := by
  obtain ⟨A1, c1, rfl, h1⟩ := hv.sl
  obtain ⟨A2, c2, rfl, h2⟩ := hu.sl
  have HB := Lib.hid hB
  have HV := Lib.hid hv
  have HU := Lib.hid hu
  clear hB hv hu
  unfold lim2 at hl
  go_enter Tryd.func21, Tryd.ntmps21
  go_wp2_with fail
  go_loopw [13] (fun i wr => ∃ k : Nat, k ≤ s.length ∧ i = .int .i64 k ∧ Only (fun _ => False) w wr) (fun i _ => s.length - (intOf i).toNat)
  case atStart => exact ⟨0, Nat.zero_le _, rfl, Only.refl _ _⟩
  case round =>
    obtain ⟨k, hk, rfl, honly⟩ := hrel
    have HW := Lib.hid honly
    clear honly
    by_cases hlt : k < s.length
    · have hb : s[k]? = some s[k] := List.getElem?_eq_getElem hlt
      rcases HV.out.keep (HW.out.kept0 HB.out) with ⟨_, h⟩ | ⟨a, c, e1, _, hc1⟩
      · rw [h] at hlt; exact absurd hlt (by simp)
      rcases HU.out.keep (HW.out.kept0 HB.out) with ⟨_, h⟩ | ⟨a', c', e2, _, hc2⟩
      · rw [h] at hlt; exact absurd hlt (by simp)
      injection e1 with e1 _ e1c
      injection e2 with e2 _ e2c
      subst e1; subst e2; subst e1c; subst e2c
      have f1 := (hc1 k _ hb).2
      have f2 := (hc2 k _ hb).2
      unfold u8v at f1 f2
      generalize (s[k].toNat : Int) = z at f1 f2
      have hlt' : (k : Int) < (s.length : Int) := by omega
      clear hc1 hc2 hb hk
      have hw64 : wrap64 ((k : Int) + 1) = (k : Int) + 1 := by unfold wrap64; omega
      have HS0 := Lib.hid (And.intro f1 f2)
      go_wp2_with fail
      go_region_held3 (fun w' => w'.cell? (a.add k) = some (.int .u8 z) ∧ w'.cell? (a'.add k) = some (.int .u8 z)) (exact HS0.out) (fail)
      go_wp2_with fail
      go_roundw
      case rel => exact ⟨k + 1, hlt, by go_num, HW.out.drew⟩
      case measure => simp [intOf]; omega
    · have hk2 : k = s.length := by omega
      subst hk2
      have hlt' : ¬ ((s.length : Int) < (s.length : Int)) := by omega
      go_wp2_with fail
      go_ret
      exact ⟨rfl, HW.out⟩

def fxOf (fx ver : Int) : Bool := decide (0 ≤ fx) && decide (fx ≤ ver)
set_option maxRecDepth 100000 in
theorem sp_write (w : World) (B : Nat) (fs : List Fld) (v : Value) (fx ver : Int) (t : Tr) (ts : List Value) (hB : B ≤ w.heap.size) (hF : FldsC w B fs v) (hT : TrC w B t ts) (hp : PartC (fxOf fx ver) fs) (hl : (partB fs ver (fxOf fx ver) t).length + 16 ≤ lim2) :
    Calls Tryd.prog 17 #[.agg #[v, .int .i64 fx], .int .i64 ver, .agg ts.toArray] w (SpP 5 w (partB fs ver (fxOf fx ver) t)) := by
  obtain ⟨n, A1, n1, c1, nl, A2, n2, c2, A3, n3, c3, rfl⟩ := hT.form
  obtain ⟨f, hs, _⟩ := id hF
  obtain ⟨AS, cS, rfl, _⟩ := hs.sl
  have hp' := (fun w' (hw : Only (fun _ => False) w w') => hp w' B _ ver t _ (Nat.le_trans hB hw.size) (hF.keep (hw.kept0 hB)) (hT.keep (hw.kept0 hB)) hl)
  clear hp hF hT hl hs hB
  generalize partB fs ver (fxOf fx ver) t = out at hp'
  unfold fxOf at hp'
  by_cases h0 : 0 ≤ fx
  · by_cases h1 : fx ≤ ver
    · have t0 : decide (0 ≤ fx) = true := by simpa using h0
      have t1 : decide (fx ≤ ver) = true := by simpa using h1
      rw [t0, t1] at hp'
      have HP := Lib.hid hp'
      clear hp' h0 h1
      go_enter Tryd.func17, Tryd.ntmps17
      go_wp2_with (go_at_call 46; refine (HP.out _ ?_).mono ?_; (exact ((Only.refl _ _).alloc _).alloc _); rintro e1 w1 h1; have H1 := Lib.hid (h1.up (((Only.refl _ _).alloc _).alloc _ : Only (fun _ => False) w _)); clear h1; obtain ⟨v1, rfl, h1⟩ := H1.out; clear h1)
      go_ret
      exact H1.out
    · have t0 : decide (0 ≤ fx) = true := by simpa using h0
      have t1 : decide (fx ≤ ver) = false := by simpa using h1
      rw [t0, t1] at hp'
      have HP := Lib.hid hp'
      clear hp' h0 h1
      go_enter Tryd.func17, Tryd.ntmps17
      go_wp2_with (go_at_call 46; refine (HP.out _ ?_).mono ?_; (exact ((Only.refl _ _).alloc _).alloc _); rintro e1 w1 h1; have H1 := Lib.hid (h1.up (((Only.refl _ _).alloc _).alloc _ : Only (fun _ => False) w _)); clear h1; obtain ⟨v1, rfl, h1⟩ := H1.out; clear h1)
      go_ret
      exact H1.out
  · have t0 : decide (0 ≤ fx) = false := by simpa using h0
    rw [t0] at hp'
    have HP := Lib.hid hp'
    clear hp' h0
    go_enter Tryd.func17, Tryd.ntmps17
    go_wp2_with (go_at_call 46; refine (HP.out _ ?_).mono ?_; (exact ((Only.refl _ _).alloc _).alloc _); rintro e1 w1 h1; have H1 := Lib.hid (h1.up (((Only.refl _ _).alloc _).alloc _ : Only (fun _ => False) w _)); clear h1; obtain ⟨v1, rfl, h1⟩ := H1.out; clear h1)
    go_ret
    exact H1.out

set_option maxRecDepth 100000 in
theorem sp_kept (w : World) (B : Nat) (fs : List Fld) (v : Value) (fx ver : Int) (t : Tr) (ts : List Value) (h0 : -9223372036854775808 ≤ ver) (h1 : ver < 9223372036854775808) (hB : B ≤ w.heap.size) (hF : FldsC w B fs v) (hT : TrC w B t ts) (hp : PartC (fxOf fx ver) fs) (hl : (partB fs ver (fxOf fx ver) t).length + 18 ≤ lim2) :
    Calls Tryd.prog 13 #[.agg #[v, .int .i64 fx], .int .i64 ver, .agg ts.toArray] w (SpP 5 w (beEnc 2 ver ++ partB fs ver (fxOf fx ver) t)) := by
  obtain ⟨i0, hi, hz0, hz1, hz2⟩ := info_u8
  obtain ⟨n, A1, n1, c1, nl, A2, n2, c2, A3, n3, c3, rfl⟩ := hT.form
  obtain ⟨f, hs, _⟩ := id hF
  obtain ⟨AS, cS, rfl, _⟩ := hs.sl
  have cW := Lib.hid (fun w' (hw : Only (fun _ => False) w w') => sp_write w' B fs _ fx ver t _ (Nat.le_trans hB hw.size) (hF.keep (hw.kept0 hB)) (hT.keep (hw.kept0 hB)) hp (by omega))
  have cF := Lib.hid (fun w' => sp_fixed w' ver 2 h0 h1 (by decide))
  have HLE : Hid ((beEnc 2 ver).length + (partB fs ver (fxOf fx ver) t).length ≤ lim2) := Lib.hid (by rw [beEnc_length]; omega)
  clear hp hF hT hl hs hB h0 h1
  generalize partB fs ver (fxOf fx ver) t = out at cW HLE
  generalize beEnc 2 ver = hd at cF HLE
  have HSq : Hid (∀ w', Only (fun _ => False) ((w.alloc (.cells #[.slice AS fs.length cS, .int .i64 fx] 32)).alloc (.cells #[.int .i64 n, .slice A1 n1 c1, .bool nl, .slice A2 n2 c2, .slice A3 n3 c3] 26)) w' → w'.cell? ⟨w.heap.size, 0, none⟩ = some (.slice AS fs.length cS) ∧ w'.cell? ⟨w.heap.size, 1, none⟩ = some (.int .i64 fx) ∧ w'.cell? ⟨w.heap.size + 1, 0, none⟩ = some (.int .i64 n) ∧ w'.cell? ⟨w.heap.size + 1, 1, none⟩ = some (.slice A1 n1 c1) ∧ w'.cell? ⟨w.heap.size + 1, 2, none⟩ = some (.bool nl) ∧ w'.cell? ⟨w.heap.size + 1, 3, none⟩ = some (.slice A2 n2 c2) ∧ w'.cell? ⟨w.heap.size + 1, 4, none⟩ = some (.slice A3 n3 c3)) :=
    Lib.hid fun w' h => ⟨boxA h 0 rfl, boxA h 1 rfl, boxC h 0 rfl, boxC h 1 rfl, boxC h 2 rfl, boxC h 3 rfl, boxC h 4 rfl⟩
  generalize hnS : fs.length = nS at cW HSq
  clear hnS
  obtain ⟨W0, hW0⟩ : ∃ W0, W0 = ((w.alloc (.cells #[.slice AS nS cS, .int .i64 fx] 32)).alloc (.cells #[.int .i64 n, .slice A1 n1 c1, .bool nl, .slice A2 n2 c2, .slice A3 n3 c3] 26)) := ⟨_, rfl⟩
  rw [← hW0] at HSq
  have HO0 : Hid (Only (fun _ => False) w W0) := Lib.hid (by rw [hW0]; exact ((Only.refl _ _).alloc _).alloc _)
  have HD := Lib.hid ((Only.refl (fun _ => False) W0).drew)
  go_enter Tryd.func13, Tryd.ntmps13
  go_wp2_with fail
  rw [← hW0]
  clear hW0
  go_region_held3 (fun w' => w'.cell? ⟨w.heap.size, 0, none⟩ = some (.slice AS nS cS) ∧ w'.cell? ⟨w.heap.size, 1, none⟩ = some (.int .i64 fx) ∧ w'.cell? ⟨w.heap.size + 1, 0, none⟩ = some (.int .i64 n) ∧ w'.cell? ⟨w.heap.size + 1, 1, none⟩ = some (.slice A1 n1 c1) ∧ w'.cell? ⟨w.heap.size + 1, 2, none⟩ = some (.bool nl) ∧ w'.cell? ⟨w.heap.size + 1, 3, none⟩ = some (.slice A2 n2 c2) ∧ w'.cell? ⟨w.heap.size + 1, 4, none⟩ = some (.slice A3 n3 c3))
    (first | exact HSq.out _ HD.out | exact HSq.out _ HT1.out | exact HSq.out _ HT2.out | exact HSq.out _ (HT2.out.ownAt hw5 (Nat.le_refl _)) | exact HSq.out _ HT3.out)
    (first
      | (refine step_app_oc rfl _ _ 22 rfl Tryd.underlying22 hi hz0 hz1 hz2 rfl HO2.out rfl HV2.out HT2.out.size HLE.out ?_; intro v5 w5 ho5 hw5; have HO5 := Lib.hid ho5; have HT3 := Lib.hid (HT2.out.ownAt hw5 (Nat.le_refl _)); clear ho5 hw5)
      | (go_at_call 39; refine (cF.out _).mono ?_; rintro e1 w1 ⟨v1, rfl, ho, hw⟩; have HT1 := Lib.hid (HD.out.trans hw); have HO1 : Hid (Own 5 W0.heap.size w1 v1 hd) := Lib.hid ho; clear ho hw)
      | (go_at_call 17; refine (cW.out _ (HO0.out.trans HT1.out)).mono ?_; rintro e2 w2 ⟨v2, rfl, ho, hw⟩; have HT2 := Lib.hid (HT1.out.trans hw); have HV2 := Lib.hid ho.oc; have HO2 := Lib.hid (HO1.out.keep hw); clear ho hw))
  all_goals go_wp2_with fail
  all_goals go_ret
  all_goals exact ⟨_, rfl, HO5.out.lower HO0.out.size, HO0.out.trans HT3.out⟩
end Go.Proofs.YtidhhlncmegjaaaDoor.Kf
