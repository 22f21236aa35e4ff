/- The law FnConfigResourceTypeText, walked. -/
import Derived.Test.YthlfepgcjomhpaaDoorNsR
import Derived.Test.YthlfepgcjomhpaaDoorNsM
import Derived.BigQuiet
import Derived.Deep.QuietTactic
import Derived.Deep.RegionHeld3
namespace Go.Proofs.YthlfepgcjomhpaaDoor.Kf
set_option linter.unusedVariables false
set_option linter.unusedSimpArgs false
open Go Go.RowKit

/-- A value's word. -/
def wordL : Nms → Int → List UInt8 × Bool
  | [], _ => ([], false)
  | x :: l, n => if x.1 = n then (x.2, true) else wordL l n
theorem wordL_drop {l : Nms} {k : Nat} {x : Int × List UInt8} (h : l[k]? = some x) (n : Int) : wordL (l.drop k) n = if x.1 = n then (x.2, true) else wordL (l.drop (k + 1)) n := by
  have hk := (List.getElem?_eq_some_iff.1 h).1
  have e := (List.getElem?_eq_some_iff.1 h).2
  rw [List.drop_eq_getElem_cons hk, e]
  rfl
set_option maxRecDepth 100000 in
set_option maxHeartbeats 1000000 in
theorem word_c (w : World) (v : Value) (ns : Nms) (n : Int) (hN : NmsC w v ns) (hn : ns.length ≤ 65536) :
    Calls Tryd.prog 10 #[v, .int .i64 n] w fun e w' => e = .returned (.tuple #[.string ⟨(wordL ns n).1.toArray⟩, .bool (wordL ns n).2]) ∧ Only (fun _ => False) w w' := by
  have HN := Lib.hid hN
  obtain ⟨D, c, rfl, hc, hD, _⟩ := hN
  obtain ⟨res, hres⟩ : ∃ res, wordL ns n = res := ⟨_, rfl⟩
  rw [hres]
  have HR := Lib.hid hres
  clear hres
  go_enter Tryd.func10, Tryd.ntmps10
  go_wp2
  go_loopw [7, 10] (fun _ i wr => ∃ k : Nat, k ≤ ns.length ∧ i = .int .i64 k ∧ wordL (ns.drop k) n = res ∧ Only (fun _ => False) w wr) (fun _ i _ => ns.length - (intOf i).toNat)
  case atStart => exact ⟨0, Nat.zero_le _, rfl, by rw [List.drop_zero]; exact HR.out, Only.refl _ _⟩
  case round =>
    obtain ⟨k, hk, rfl, hpr, honly⟩ := hrel
    have HW := Lib.hid honly
    by_cases hlt : k < ns.length
    · obtain ⟨x, hx⟩ : ∃ x, ns[k]? = some x := ⟨ns[k], List.getElem?_eq_getElem hlt⟩
      obtain ⟨D', c', hv', _, hD', hcells⟩ := HN.out.keep HW.out
      obtain ⟨rfl, rfl⟩ : D = D' ∧ c = c' := by simpa using hv'
      obtain ⟨q0, q1⟩ := hcells k x hx
      have hst := wordL_drop hx n
      rw [hpr] at hst
      clear hcells hv' hpr honly hD' hx
      obtain ⟨m, wd⟩ := x
      simp only at q0 q1 hst
      have HST := Lib.hid hst
      clear hst
      have hlt' : (k : Int) < (ns.length : Int) := by omega
      have e1 : wrap64 ((k : Int) + 1) = (k : Int) + 1 := by unfold wrap64; omega
      by_cases hmn : m = n
      · subst hmn
        go_wp2_with fail
        have hr : res = (wd, true) := by rw [HST.out]; simp
        subst hr
        refine bodyPost_ret (results_tmp2 Tryd.results10 _ _ _) rfl ?_
        exact ⟨rfl, HW.out.trans ((Only.refl _ _).alloc _)⟩
      · go_wp2_with fail
        go_roundw
        case rel => exact ⟨k + 1, hlt, rfl, by rw [HST.out, if_neg hmn], HW.out.trans ((Only.refl _ _).alloc _)⟩
        case measure => simp [intOf]; omega
    · have hk2 : k = ns.length := by omega
      subst hk2
      have hlt' : ¬ ((ns.length : Int) < (ns.length : Int)) := by omega
      rw [List.drop_length] at hpr
      subst hpr
      go_wp2_with fail
      refine bodyPost_ret (results_tmp2 Tryd.results10 _ _ _) rfl ?_
      exact ⟨rfl, HW.out⟩

set_option maxRecDepth 100000 in
theorem string_c (w : World) (x : Int × List UInt8) (hx : x ∈ namesR) : Calls Tryd.prog 21 #[.int .i8 x.1] w fun e w' => e = .returned (.string ⟨x.2.toArray⟩) ∧ w' = w := by
  simp only [namesR, List.mem_cons, List.mem_nil_iff, or_false] at hx
  rcases hx with rfl | rfl | rfl | rfl | rfl
  all_goals
    go_enter Tryd.func21, Tryd.ntmps21
    go_wp2
    go_ret
    exact ⟨rfl, rfl⟩
set_option maxRecDepth 100000 in
theorem istring_c (w : World) (x : Int × List UInt8) (hx : x ∈ namesR) : Calls Tryd.prog 13 #[.int .i8 x.1] w fun e w' => e = .returned (.string ⟨x.2.toArray⟩) ∧ w' = w := by
  have c1 := Lib.hid (string_c w x hx)
  obtain ⟨n, wd⟩ := x
  simp only at c1 ⊢
  go_enter Tryd.func13, Tryd.ntmps13
  go_wp2_with (first
    | (go_at_call 21; refine c1.out.mono ?_; rintro e1 w1 ⟨rfl, h1⟩; have h1 := h1.symm; subst h1)
    | fail)
  go_ret
  exact ⟨rfl, rfl⟩
set_option maxRecDepth 100000 in
theorem marshal_c (w : World) (x : Int × List UInt8) (hx : x ∈ namesR) : Calls Tryd.prog 20 #[.int .i8 x.1] w fun e w' => (∃ A c, e = .returned (.tuple #[.slice A x.2.length c, .nilIface]) ∧ Oc w' w'.heap.size (.slice A x.2.length c) x.2) ∧ Only (fun _ => False) w w' := by
  have c1 := Lib.hid (string_c w x hx)
  obtain ⟨n, wd⟩ := x
  simp only at c1 ⊢
  go_enter Tryd.func20, Tryd.ntmps20
  go_wp2_with (first
    | (go_at_call 21; refine c1.out.mono ?_; rintro e1 w1 ⟨rfl, h1⟩; have h1 := h1.symm; subst h1; clear c1)
    | (rw [conv_bytes]; simp only [Result.andThen]; rw [Oper.upon_value]; have HOC := Lib.hid (oc_bytes w 5 wd); have OB := Lib.hid ((Only.refl (fun _ => False) w).of_below (bw_below w 5 ⟨wd.toArray⟩)); generalize Lib.bytesWorld w 5 ⟨wd.toArray⟩ = wb at HOC OB ⊢; generalize grownCap w wd.length 0 5 = gc at HOC ⊢)
    | fail)
  refine bodyPost_ret (results_tmp2 Tryd.results20 _ _ _) rfl ?_
  exact ⟨⟨_, _, rfl, HOC.out⟩, OB.out⟩

set_option maxRecDepth 100000 in
theorem itext_c (w : World) (x : Int × List UInt8) (hx : x ∈ namesR) : Calls Tryd.prog 12 #[.int .i8 x.1] w fun e w' => (∃ v, e = .returned (.tuple #[v, .bool true]) ∧ Own 5 w.heap.size w' v x.2) ∧ Only (fun _ => False) w w' := by
  obtain ⟨i0, hi, hz0, hz1, hz2⟩ := info_u8
  have c1 := Lib.hid (marshal_c w x hx)
  have hle : x.2.length ≤ 200 := by
    simp only [namesR, List.mem_cons, List.mem_nil_iff, or_false] at hx
    rcases hx with rfl | rfl | rfl | rfl | rfl <;> decide
  have HLE : Hid (([] : List UInt8).length + x.2.length ≤ lim2) := Lib.hid (by unfold lim2; simp; omega)
  obtain ⟨n, wd⟩ := x
  simp only at c1 HLE ⊢
  clear hx
  go_enter Tryd.func12, Tryd.ntmps12
  go_wp2_with (first
    | (go_at_call 20; refine c1.out.mono ?_; rintro e1 w1 ⟨⟨A, c, rfl, hoc⟩, h1⟩; have O1 := Lib.hid h1; have HOC := Lib.hid hoc; clear h1 hoc c1)
    | fail)
  have OD := Lib.hid (O1.out.drew)
  have HOD := Lib.hid (HOC.out.keep (((Only.refl (fun _ => False) w1).drew).kept0 (Nat.le_refl _)))
  go_region_held3 (fun _ => True) (trivial)
    (first
      | (refine step_app_oc rfl _ _ 26 rfl Tryd.underlying26 hi hz0 hz1 hz2 (base := w.heap.size) (v := .slice none 0 0) (ds := []) rfl (own_nilR _ _ _) rfl HOD.out OD.out.size HLE.out ?_; intro v5 w5 ho5 hw5; have HO5 := Lib.hid ho5; have O5 := Lib.hid (OD.out.own hw5 (Nat.le_refl _)); clear ho5 hw5))
  go_wp2_with fail
  refine bodyPost_ret (results_tmp2 Tryd.results12 _ _ _) rfl ?_
  exact ⟨⟨v5, rfl, HO5.out⟩, O5.out⟩

theorem word_or (n : Int) : (∃ x ∈ namesR, x.1 = n ∧ wordL namesR n = (x.2, true)) ∨ wordL namesR n = ([], false) := by
  by_cases h : ∃ x ∈ namesR, x.1 = n
  · obtain ⟨x, hx, rfl⟩ := h
    refine .inl ⟨x, hx, rfl, ?_⟩
    simp only [namesR, List.mem_cons, List.mem_nil_iff, or_false] at hx
    rcases hx with rfl | rfl | rfl | rfl | rfl <;> decide
  · refine .inr ?_
    have h' : ∀ x ∈ namesR, ¬ x.1 = n := fun x hx e => h ⟨x, hx, e⟩
    simp only [namesR, List.mem_cons, List.mem_nil_iff, or_false, forall_eq_or_imp, forall_eq] at h'
    simp only [namesR, wordL, if_neg h'.1, if_neg h'.2.1, if_neg h'.2.2.1, if_neg h'.2.2.2.1, if_neg h'.2.2.2.2]
theorem facts_R (x : Int × List UInt8) (hx : x ∈ namesR) : parsedL namesR x.2 = (x.1, true) ∧ (∀ b ∈ x.2, b.toNat < 128) ∧ x.2.length ≤ 200 := by
  simp only [namesR, List.mem_cons, List.mem_nil_iff, or_false] at hx
  rcases hx with rfl | rfl | rfl | rfl | rfl <;> exact ⟨by decide, by decide, by decide⟩

set_option maxRecDepth 100000 in
set_option maxHeartbeats 1000000 in
theorem lawT {w : World} {n : Int} (ht : Asc w) (hn0 : -128 ≤ n) (hn1 : n ≤ 127) : Calls Tryd.prog 4 #[.int .i8 n] w fun e w' => e = .returned (.bool true) ∧ Only (fun _ => False) w w' := by
  have HT := Lib.hid ht
  have hw64 : wrap64 n = n := by unfold wrap64; omega
  clear ht
  have CW := Lib.hid (fun (w1 : World) (v : Value) (hN : NmsC w1 v namesR) => word_c w1 v namesR n hN namesR_len.1)
  go_enter Tryd.func4, Tryd.ntmps4
  rcases word_or n with ⟨x, hx, hxn, hwd⟩ | hwd
  · obtain ⟨f1, f2, f3⟩ := facts_R x hx
    have CT := Lib.hid (fun (w1 : World) => itext_c w1 x hx)
    have CS := Lib.hid (fun (w1 : World) => istring_c w1 x hx)
    obtain ⟨n', wd⟩ := x
    simp only at hxn
    subst hxn
    simp only at f1 f2 f3 CT CS hwd
    rw [hwd] at CW
    have CI := Lib.hid (fun (w1 : World) (h : Asc w1) => implR w1 wd (by omega) f2 h)
    have CO := Lib.hid (fun (w1 : World) (v : Value) (ho : Oc w1 w1.heap.size v wd) (h : Asc w1) => textR w1 v wd ho (by omega) f2 h)
    unfold RdR at CI CO
    rw [f1] at CI CO
    simp only at CI CO CW
    clear f1 f2 hx hwd
    go_wp2_with (first
      | (go_at_call 11; refine (specR _).mono ?_; rintro e1 w1 ⟨⟨v1, rfl, hn4⟩, h1⟩; have O1 := Lib.hid h1; have HN := Lib.hid hn4; clear h1 hn4)
      | (go_at_call 10; refine (CW.out _ _ HN.out).mono ?_; rintro e2 w2 ⟨rfl, h2⟩; have O2 := Lib.hid (O1.out.trans h2); clear h2 CW)
      | (go_at_call 12; refine (CT.out _).mono ?_; rintro e3 w3 ⟨⟨v3, rfl, ho⟩, h3⟩; have O3 := Lib.hid (O2.out.trans h3); have HO := Lib.hid ho.oc; clear h3 ho CT)
      | (go_at_call 13; refine (CS.out _).mono ?_; rintro e4 w4 ⟨rfl, h4⟩; have h4 := h4.symm; subst h4; clear CS)
      | (rw [conv_at HO.out]; simp only [Result.andThen]; rw [Oper.upon_value])
      | (go_at_call 14; refine (CI.out _ (HT.out.keep O3.out)).mono ?_; rintro e5 w5 ⟨rfl, h5⟩; have O5 := Lib.hid (O3.out.trans h5); have HO5 := Lib.hid ((HO.out.keep (h5.kept0 (Nat.le_refl _))).more h5.size); clear h5 CI)
      | (go_at_call 15; refine (CO.out _ _ HO5.out (HT.out.keep O5.out)).mono ?_; rintro e6 w6 ⟨rfl, h6⟩; have O6 := Lib.hid (O5.out.trans h6); clear h6 CO)
      | fail)
    go_ret
    exact ⟨rfl, O6.out⟩
  · rw [hwd] at CW
    simp only at CW
    go_wp2_with (first
      | (go_at_call 11; refine (specR _).mono ?_; rintro e1 w1 ⟨⟨v1, rfl, hn4⟩, h1⟩; have O1 := Lib.hid h1; have HN := Lib.hid hn4; clear h1 hn4)
      | (go_at_call 10; refine (CW.out _ _ HN.out).mono ?_; rintro e2 w2 ⟨rfl, h2⟩; have O2 := Lib.hid (O1.out.trans h2); clear h2 CW)
      | fail)
    go_ret
    exact ⟨rfl, O2.out⟩

end Go.Proofs.YthlfepgcjomhpaaDoor.Kf
