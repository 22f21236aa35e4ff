-- PRINTED BY print.sh 35421559b90ae4d0a3588c463048766b98c2df88dd9212a6774a882060cdf62d: not written by this session
import Derived.Test.YtfimokbgggimmaaPFnACLResourceTypeWordsx0
namespace Go.Proofs.Ytfimokbgggimmaa.PFnACLResourceTypeWords
open Go.RowKit Go.Proofs.YtfimokbgggimmaaW.PrintWords Go.Proofs.YtfimokbgggimmaaW.PrintLast Go.Proofs.YtfimokbgggimmaaW.PrintMore
attribute [local go_sem] max2_int min2_int max_two min_two max_three min_three max_four min_four   -- for this text's walks alone
set_option linter.unusedVariables false
set_option linter.unusedSimpArgs false

/-! ### laws_sameWords: function 5 -/
def laws_sameWords.l0 : Nat → List ByteArray → List ByteArray → Int → Int → Option (Bool)
  | 0, _, _, _, _ => none
  | k + 1, x0, x1, x12, x13 => if x13 < x12 then (if 0 ≤ x13 then (if x13 < (x0.length : Int) then (if x13 < (x1.length : Int) then (if (rdOf ByteArray.empty x0 x13).toList = (rdOf ByteArray.empty x1 x13).toList then (laws_sameWords.l0 k x0 x1 x12 (wrap64 (x13 + 1))) else (some false)) else (none)) else (none)) else (none)) else (some true)
def laws_sameWords.f (k : Nat) (l0 : List ByteArray) (l1 : List ByteArray) : Option (Bool) := if (l0.length : Int) = (l1.length : Int) then (laws_sameWords.l0 k l0 l1 (l0.length : Int) 0) else (some false)
theorem laws_sameWords.mono_l : ∀ k, (∀ y0 y1 y2 y3, LeO (laws_sameWords.l0 k y0 y1 y2 y3) (laws_sameWords.l0 (k + 1) y0 y1 y2 y3))
  | 0 => fun _ _ _ _ r h => by simp [laws_sameWords.l0] at h
  | k + 1 => by
    have ih0 := laws_sameWords.mono_l k
    · intro y0 y1 y2 y3
      unfold laws_sameWords.l0
      repeat' first
      | (with_reducible exact ih0 _ _ _ _)
      | (with_reducible exact LeO.refl _)
      | (with_reducible exact LeO.none _)
      | (with_reducible refine LeO.ite ?_ ?_)
      | (with_reducible refine LeO.bind ?_ (fun _ => ?_))
      | exact ih0 _ _ _ _
      | exact LeO.none _
      | refine LeO.ite ?_ ?_
      | refine LeO.bind ?_ (fun _ => ?_)
theorem laws_sameWords.mono : ∀ a0 a1 k, LeO (laws_sameWords.f k a0 a1) (laws_sameWords.f (k + 1) a0 a1) := by
  intro a0 a1 k
  have ih0 := laws_sameWords.mono_l k
  unfold laws_sameWords.f
  repeat' first
      | (with_reducible exact ih0 _ _ _ _)
      | (with_reducible exact LeO.refl _)
      | (with_reducible exact LeO.none _)
      | (with_reducible refine LeO.ite ?_ ?_)
      | (with_reducible refine LeO.bind ?_ (fun _ => ?_))
      | exact ih0 _ _ _ _
      | exact LeO.none _
      | refine LeO.ite ?_ ?_
      | refine LeO.bind ?_ (fun _ => ?_)
set_option maxHeartbeats 8000000 in
set_option maxRecDepth 100000 in
theorem laws_sameWords.calls (k : Nat) (A0 : Option Addr) (c0 : Nat) (l0 : List ByteArray) (A1 : Option Addr) (c1 : Nat) (l1 : List ByteArray) (r : Bool) (w : World) (hr0 : Kd.C Kd.string w A0 l0.length l0) (hc0 : l0.length ≤ c0) (hr1 : Kd.C Kd.string w A1 l1.length l1) (hc1 : l1.length ≤ c1) (h : laws_sameWords.f k l0 l1 = some r) :
    Calls Try.prog 5 #[.slice A0 l0.length c0, .slice A1 l1.length c1] w fun e w' => e = .returned (.bool r) ∧ Drawn0 w w' := by
  have HR0 := Aside0.mk hr0
  have HC0 := Aside0.mk hc0
  clear hr0 hc0
  have HR1 := Aside0.mk hr1
  have HC1 := Aside0.mk hc1
  clear hr1 hc1
  have H : (if (l0.length : Int) = (l1.length : Int) then (laws_sameWords.l0 k l0 l1 (l0.length : Int) 0) else (some false)) = some r := h
  clear h
  by_cases c3 : (l0.length : Int) = (l1.length : Int)
  · rw [if_pos c3] at H
    have c3b0 : ((l0.length : Int) == (l1.length : Int)) = true := beq_iff_eq.mpr c3
    have c3b1 : ((l0.length : Int) != (l1.length : Int)) = false := bne_eq_false_iff_eq.mpr c3
    have c3b2 : (l0.length == l1.length) = true := by first | simpa using c3 | (simp at c3 ⊢; omega)
    clear c3
    have H' := Aside0.mk H
    clear H
    go_enter Try.func5, Try.ntmps5
    go_wp2
    repeat (go_quiet (fail); try go_wp2)
    go_loopg [13] k (fun kq v13 w' => ∃ (x13_1 : Int), v13 = .int .i64 x13_1 ∧ Aside0 (laws_sameWords.l0 kq l0 l1 (l0.length : Int) x13_1 = some r) ∧ Aside0 (kq ≤ k) ∧ Drawn0 w w')
    case atStart => exact ⟨(0), (by first | rfl | (simp; done) | (simp [*]; done)), H', ⟨Nat.le_refl _⟩, by repeat (first | exact Drawn0.refl _ | apply Drawn0.step)⟩
    case round =>
      clear H'
      try clear c1
      try clear p2
      try clear c3
      try clear c3b0
      try clear c3b1
      try clear c3b2
      obtain ⟨x13_1, rfl, HA, HK1, ⟨m1, rfl⟩⟩ := hrel
      cases gk with
      | zero => exact absurd HA.out (by simp [laws_sameWords.l0])
      | succ k1 =>
        have H := HA.out
        clear HA
        simp only [laws_sameWords.l0] at H
        by_cases c4 : x13_1 < (l0.length : Int)
        · rw [if_pos c4] at H
          have c4b0 : decide (x13_1 < (l0.length : Int)) = true := decide_eq_true c4
          clear c4
          by_cases c5 : 0 ≤ x13_1
          · rw [if_pos c5] at H
            have c5b0 : decide (0 ≤ x13_1) = true := decide_eq_true c5
            clear c5
            by_cases c6 : x13_1 < (l0.length : Int)
            · rw [if_pos c6] at H
              have c6b0 : decide (x13_1 < (l0.length : Int)) = true := decide_eq_true c6
              clear c6
              by_cases c7 : x13_1 < (l1.length : Int)
              · rw [if_pos c7] at H
                have c7b0 : decide (x13_1 < (l1.length : Int)) = true := decide_eq_true c7
                clear c7
                by_cases c8 : (rdOf ByteArray.empty l0 x13_1).toList = (rdOf ByteArray.empty l1 x13_1).toList
                · rw [if_pos c8] at H
                  have c8b0 : ((rdOf ByteArray.empty l0 x13_1).toList == (rdOf ByteArray.empty l1 x13_1).toList) = true := beq_iff_eq.mpr c8
                  have c8b1 : ((rdOf ByteArray.empty l0 x13_1).toList != (rdOf ByteArray.empty l1 x13_1).toList) = false := bne_eq_false_iff_eq.mpr c8
                  clear c8
                  have H' := Aside0.mk H
                  clear H
                  have p101 : 0 ≤ (x13_1 : Int) := of_decide_eq_true (by first | (with_reducible assumption) | assumption)
                  have q101 : x13_1 < (l0.length : Int) := of_decide_eq_true (by first | (with_reducible assumption) | assumption)
                  obtain ⟨ad101, e101, hx101_0⟩ := Kd.at_string HR0.out x13_1 p101 q101
                  cases e101
                  replace p101 := eq_true p101
                  replace q101 := eq_true q101
                  have p102 : 0 ≤ (x13_1 : Int) := of_decide_eq_true (by first | (with_reducible assumption) | assumption)
                  have q102 : x13_1 < (l1.length : Int) := of_decide_eq_true (by first | (with_reducible assumption) | assumption)
                  obtain ⟨ad102, e102, hx102_0⟩ := Kd.at_string HR1.out x13_1 p102 q102
                  cases e102
                  replace p102 := eq_true p102
                  replace q102 := eq_true q102
                  go_wp2
                  repeat (go_quiet (fail); try go_wp2)
                  go_roundg k1
                  case measure => have := HK1.out; omega
                  case rel => exact ⟨(wrap64 (x13_1 + 1)), (by first | rfl | (simp; done) | (simp [*]; done)), H', ⟨by have := HK1.out; omega⟩, by repeat (first | exact Drawn0.refl _ | apply Drawn0.step)⟩
                · rw [if_neg c8] at H
                  have c8b0 : ((rdOf ByteArray.empty l0 x13_1).toList == (rdOf ByteArray.empty l1 x13_1).toList) = false := beq_eq_false_iff_ne.mpr c8
                  have c8b1 : ((rdOf ByteArray.empty l0 x13_1).toList != (rdOf ByteArray.empty l1 x13_1).toList) = true := bne_iff_ne.mpr c8
                  obtain rfl := Option.some.inj H
                  have p101 : 0 ≤ (x13_1 : Int) := of_decide_eq_true (by first | (with_reducible assumption) | assumption)
                  have q101 : x13_1 < (l0.length : Int) := of_decide_eq_true (by first | (with_reducible assumption) | assumption)
                  obtain ⟨ad101, e101, hx101_0⟩ := Kd.at_string HR0.out x13_1 p101 q101
                  cases e101
                  replace p101 := eq_true p101
                  replace q101 := eq_true q101
                  have p102 : 0 ≤ (x13_1 : Int) := of_decide_eq_true (by first | (with_reducible assumption) | assumption)
                  have q102 : x13_1 < (l1.length : Int) := of_decide_eq_true (by first | (with_reducible assumption) | assumption)
                  obtain ⟨ad102, e102, hx102_0⟩ := Kd.at_string HR1.out x13_1 p102 q102
                  cases e102
                  replace p102 := eq_true p102
                  replace q102 := eq_true q102
                  go_wp2
                  repeat (go_quiet (fail); try go_wp2)
                  go_ret
                  exact ⟨by first | rfl | (simp; done) | (simp [*]; done), by repeat (first | exact Drawn0.refl _ | apply Drawn0.step)⟩
              · rw [if_neg c7] at H
                exact absurd H (by simp)
            · rw [if_neg c6] at H
              exact absurd H (by simp)
          · rw [if_neg c5] at H
            exact absurd H (by simp)
        · rw [if_neg c4] at H
          have c4b0 : decide (x13_1 < (l0.length : Int)) = false := decide_eq_false c4
          clear c4
          obtain rfl := Option.some.inj H
          go_wp2
          repeat (go_quiet (fail); try go_wp2)
          go_ret
          exact ⟨by first | rfl | (simp; done) | (simp [*]; done), by repeat (first | exact Drawn0.refl _ | apply Drawn0.step)⟩
  · rw [if_neg c3] at H
    have c3b0 : ((l0.length : Int) == (l1.length : Int)) = false := beq_eq_false_iff_ne.mpr c3
    have c3b1 : ((l0.length : Int) != (l1.length : Int)) = true := bne_iff_ne.mpr c3
    have c3b2 : (l0.length == l1.length) = false := by first | simpa using c3 | (simp at c3 ⊢; omega)
    obtain rfl := Option.some.inj H
    go_enter Try.func5, Try.ntmps5
    go_wp2
    repeat (go_quiet (fail); try go_wp2)
    go_ret
    exact ⟨by first | rfl | (simp; done) | (simp [*]; done), by repeat (first | exact Drawn0.refl _ | apply Drawn0.step)⟩

/-! ### kmsg_ACLResourceTypeStrings: function 16 -/
def kmsg_ACLResourceTypeStrings.f  : Option (List ByteArray) := some (([(⟨#[65, 78, 89]⟩ : ByteArray), (⟨#[84, 79, 80, 73, 67]⟩ : ByteArray), (⟨#[71, 82, 79, 85, 80]⟩ : ByteArray), (⟨#[67, 76, 85, 83, 84, 69, 82]⟩ : ByteArray), (⟨#[84, 82, 65, 78, 83, 65, 67, 84, 73, 79, 78, 65, 76, 95, 73, 68]⟩ : ByteArray), (⟨#[68, 69, 76, 69, 71, 65, 84, 73, 79, 78, 95, 84, 79, 75, 69, 78]⟩ : ByteArray), (⟨#[85, 83, 69, 82]⟩ : ByteArray)] : List ByteArray))
set_option maxHeartbeats 8000000 in
set_option maxRecDepth 100000 in
theorem kmsg_ACLResourceTypeStrings.calls  (r : List ByteArray) (w : World) (h : kmsg_ACLResourceTypeStrings.f  = some r) :
    Calls Try.prog 16 #[] w fun e w' => ∃ v0_ : Value, e = .returned (v0_) ∧ Kd.R Kd.string 9 w' w.heap.size (fun _ => True) v0_ r ∧ Below w.heap.size w w' := by
  have HB := Aside0.mk (Below.refl w.heap.size w)
  have H : (some (([(⟨#[65, 78, 89]⟩ : ByteArray), (⟨#[84, 79, 80, 73, 67]⟩ : ByteArray), (⟨#[71, 82, 79, 85, 80]⟩ : ByteArray), (⟨#[67, 76, 85, 83, 84, 69, 82]⟩ : ByteArray), (⟨#[84, 82, 65, 78, 83, 65, 67, 84, 73, 79, 78, 65, 76, 95, 73, 68]⟩ : ByteArray), (⟨#[68, 69, 76, 69, 71, 65, 84, 73, 79, 78, 95, 84, 79, 75, 69, 78]⟩ : ByteArray), (⟨#[85, 83, 69, 82]⟩ : ByteArray)] : List ByteArray))) = some r := h
  clear h
  obtain ⟨y103, hy103⟩ : ∃ y_ : List ByteArray, y_ = (([(⟨#[65, 78, 89]⟩ : ByteArray), (⟨#[84, 79, 80, 73, 67]⟩ : ByteArray), (⟨#[71, 82, 79, 85, 80]⟩ : ByteArray), (⟨#[67, 76, 85, 83, 84, 69, 82]⟩ : ByteArray), (⟨#[84, 82, 65, 78, 83, 65, 67, 84, 73, 79, 78, 65, 76, 95, 73, 68]⟩ : ByteArray), (⟨#[68, 69, 76, 69, 71, 65, 84, 73, 79, 78, 95, 84, 79, 75, 69, 78]⟩ : ByteArray), (⟨#[85, 83, 69, 82]⟩ : ByteArray)] : List ByteArray)) := ⟨_, rfl⟩
  replace H : (some y103) = some r := by first | (rw [hy103]; with_reducible exact H) | (have H2_ := (Option.bind_some _ _).symm.trans H; rw [hy103]; with_reducible exact H2_) | (have H2_ := (Option.bind_some _ _).symm.trans H; with_reducible exact H2_) | with_reducible exact H | (rw [hy103]; exact H) | exact H
  have Ny103 := Aside0.mk hy103
  clear hy103
  obtain rfl := Option.some.inj H
  go_enter Try.func16, Try.ntmps16
  go_wp2_with (first | ((with_reducible refine gate_dst (N := 1) rfl ?_); refine Kd.R_lit Kd.string _ 9 ?hg (N := 1) ?hd (xs := ([(⟨#[65, 78, 89]⟩ : ByteArray), (⟨#[84, 79, 80, 73, 67]⟩ : ByteArray), (⟨#[71, 82, 79, 85, 80]⟩ : ByteArray), (⟨#[67, 76, 85, 83, 84, 69, 82]⟩ : ByteArray), (⟨#[84, 82, 65, 78, 83, 65, 67, 84, 73, 79, 78, 65, 76, 95, 73, 68]⟩ : ByteArray), (⟨#[68, 69, 76, 69, 71, 65, 84, 73, 79, 78, 95, 84, 79, 75, 69, 78]⟩ : ByteArray), (⟨#[85, 83, 69, 82]⟩ : ByteArray)] : List ByteArray)) (inner := [.string (⟨#[65, 78, 89]⟩ : ByteArray), .string (⟨#[84, 79, 80, 73, 67]⟩ : ByteArray), .string (⟨#[71, 82, 79, 85, 80]⟩ : ByteArray), .string (⟨#[67, 76, 85, 83, 84, 69, 82]⟩ : ByteArray), .string (⟨#[84, 82, 65, 78, 83, 65, 67, 84, 73, 79, 78, 65, 76, 95, 73, 68]⟩ : ByteArray), .string (⟨#[68, 69, 76, 69, 71, 65, 84, 73, 79, 78, 95, 84, 79, 75, 69, 78]⟩ : ByteArray), .string (⟨#[85, 83, 69, 82]⟩ : ByteArray)]) (ok := fun _ => True) (okp := fun _ => True) ?hr ?hp (fun _ hk => hk) trivial (Below.refl _ _) (Nat.le_refl _) (by simp) ?_; (case hd => rfl); (case hg => rfl); (case hr => first | (go_simp; done) | (go_simp; rfl)); (case hp => exact (Reps.one (show Kd.M Kd.string _ _ _ (⟨#[65, 78, 89]⟩ : ByteArray) [.string (⟨#[65, 78, 89]⟩ : ByteArray)] from rfl) (Reps.one (show Kd.M Kd.string _ _ _ (⟨#[84, 79, 80, 73, 67]⟩ : ByteArray) [.string (⟨#[84, 79, 80, 73, 67]⟩ : ByteArray)] from rfl) (Reps.one (show Kd.M Kd.string _ _ _ (⟨#[71, 82, 79, 85, 80]⟩ : ByteArray) [.string (⟨#[71, 82, 79, 85, 80]⟩ : ByteArray)] from rfl) (Reps.one (show Kd.M Kd.string _ _ _ (⟨#[67, 76, 85, 83, 84, 69, 82]⟩ : ByteArray) [.string (⟨#[67, 76, 85, 83, 84, 69, 82]⟩ : ByteArray)] from rfl) (Reps.one (show Kd.M Kd.string _ _ _ (⟨#[84, 82, 65, 78, 83, 65, 67, 84, 73, 79, 78, 65, 76, 95, 73, 68]⟩ : ByteArray) [.string (⟨#[84, 82, 65, 78, 83, 65, 67, 84, 73, 79, 78, 65, 76, 95, 73, 68]⟩ : ByteArray)] from rfl) (Reps.one (show Kd.M Kd.string _ _ _ (⟨#[68, 69, 76, 69, 71, 65, 84, 73, 79, 78, 95, 84, 79, 75, 69, 78]⟩ : ByteArray) [.string (⟨#[68, 69, 76, 69, 71, 65, 84, 73, 79, 78, 95, 84, 79, 75, 69, 78]⟩ : ByteArray)] from rfl) (Reps.one (show Kd.M Kd.string _ _ _ (⟨#[85, 83, 69, 82]⟩ : ByteArray) [.string (⟨#[85, 83, 69, 82]⟩ : ByteArray)] from rfl) (Reps.none _ _))))))))); intro v104 w1 ho2 hb hg_ hnew_; clear hg_ hnew_; (first | rw [← Ny103.out] at ho2 | (simp only [Int.reduceToNat] at ho2; rw [← Ny103.out] at ho2)); have n0_ := Aside0.mk (Kd.R_lower ho2 (below_size (by repeat (first | (with_reducible first | exact HB.out | apply below_alloc | apply pw_below_drewN | apply below_drew1) | exact HB.out)))); have n1_ := Aside0.mk (below_step (by repeat (first | (with_reducible first | exact HB.out | apply below_alloc | apply pw_below_drewN | apply below_drew1) | exact HB.out)) hb); clear HB; have HO105 := n0_; have HB := n1_; clear n0_ n1_; clear hb ho2))
  go_ret
  exact ⟨_, by first | rfl | (simp [errW_none, errW_some] <;> rfl) | (simp [*, errW_none, errW_some] <;> rfl), by (with_reducible repeat (first | apply Kd.R_alloc | apply Kd.R_drewN | apply Kd.R_drew)); exact HO105.out, by repeat (first | (with_reducible first | exact HB.out | apply below_alloc | apply pw_below_drewN | apply below_drew1) | exact HB.out)⟩

/-! ### impl_ACLResourceTypeStrings: function 6 -/
def impl_ACLResourceTypeStrings.f  : Option (List ByteArray) := (kmsg_ACLResourceTypeStrings.f).bind fun t106 => (some t106)
set_option maxHeartbeats 8000000 in
set_option maxRecDepth 100000 in
theorem impl_ACLResourceTypeStrings.calls  (r : List ByteArray) (w : World) (h : impl_ACLResourceTypeStrings.f  = some r) :
    Calls Try.prog 6 #[] w fun e w' => ∃ v0_ : Value, e = .returned (v0_) ∧ Kd.R Kd.string 9 w' w.heap.size (fun _ => True) v0_ r ∧ Below w.heap.size w w' := by
  have HB := Aside0.mk (Below.refl w.heap.size w)
  have H : ((kmsg_ACLResourceTypeStrings.f).bind fun t106 => (some t106)) = some r := h
  clear h
  replace H := Option.bind_eq_some_iff.mp H
  obtain ⟨t106, A10, H⟩ := H
  replace H : (some t106) = some r := H
  have A1 := Aside0.mk A10
  clear A10
  obtain rfl := Option.some.inj H
  go_enter Try.func6, Try.ntmps6
  go_wp2_with (first | ((with_reducible refine gate_callee (f := 16) rfl ?_); refine goesL_ (some 1) rfl rfl Try.func16 (by kernel_rfl) rfl #[] rfl (by (try simp only [List.map_toArray, List.map_cons, List.map_nil]); first | done | rfl | (simp only [List.length_drop, List.length_take]; rfl)) ?_; (with_reducible refine (kmsg_ACLResourceTypeStrings.calls  t106 _ A1.out).mono ?_); rintro e w2 ⟨v107, rfl, ho0, hb⟩; refine ⟨_, rfl, ?_⟩; have n0_ := Aside0.mk (Kd.R_lower ho0 (below_size (by repeat (first | (with_reducible first | exact HB.out | apply below_alloc | apply pw_below_drewN | apply below_drew1) | exact HB.out)))); have n1_ := Aside0.mk (below_step (by repeat (first | (with_reducible first | exact HB.out | apply below_alloc | apply pw_below_drewN | apply below_drew1) | exact HB.out)) hb); clear HB; have HO108 := n0_; have HB := n1_; clear n0_ n1_; (try clear hb); (try clear hb2); (try clear hk); (try clear hi); (try clear ho0)))
  go_ret
  exact ⟨_, by first | rfl | (simp [errW_none, errW_some] <;> rfl) | (simp [*, errW_none, errW_some] <;> rfl), by (with_reducible repeat (first | apply Kd.R_alloc | apply Kd.R_drewN | apply Kd.R_drew)); exact HO108.out, by repeat (first | (with_reducible first | exact HB.out | apply below_alloc | apply pw_below_drewN | apply below_drew1) | exact HB.out)⟩

/-! ### spec_Words: function 7 -/
def spec_Words.l0 : Nat → List ByteArray → List (S46) → Int → Int → Option (List ByteArray)
  | 0, _, _, _, _ => none
  | k + 1, x3, x6, x7, x8 => if x8 < x7 then (if 0 ≤ x8 then (if x8 < (x6.length : Int) then (if x3.length < 8796093022208 then (spec_Words.l0 k (x3 ++ [(rd_T46 x6 x8).f1]) x6 x7 (wrap64 (x8 + 1))) else (none)) else (none)) else (none)) else (some x3)
def spec_Words.f (k : Nat) (l0 : List (S46)) : Option (List ByteArray) := spec_Words.l0 k ([] : List ByteArray) l0 (l0.length : Int) 0
theorem spec_Words.mono_l : ∀ k, (∀ y0 y1 y2 y3, LeO (spec_Words.l0 k y0 y1 y2 y3) (spec_Words.l0 (k + 1) y0 y1 y2 y3))
  | 0 => fun _ _ _ _ r h => by simp [spec_Words.l0] at h
  | k + 1 => by
    have ih0 := spec_Words.mono_l k
    · intro y0 y1 y2 y3
      unfold spec_Words.l0
      repeat' first
      | (with_reducible exact ih0 _ _ _ _)
      | (with_reducible exact LeO.refl _)
      | (with_reducible exact LeO.none _)
      | (with_reducible refine LeO.ite ?_ ?_)
      | (with_reducible refine LeO.bind ?_ (fun _ => ?_))
      | exact ih0 _ _ _ _
      | exact LeO.none _
      | refine LeO.ite ?_ ?_
      | refine LeO.bind ?_ (fun _ => ?_)
theorem spec_Words.mono : ∀ a0 k, LeO (spec_Words.f k a0) (spec_Words.f (k + 1) a0) := by
  intro a0 k
  have ih0 := spec_Words.mono_l k
  unfold spec_Words.f
  repeat' first
      | (with_reducible exact ih0 _ _ _ _)
      | (with_reducible exact LeO.refl _)
      | (with_reducible exact LeO.none _)
      | (with_reducible refine LeO.ite ?_ ?_)
      | (with_reducible refine LeO.bind ?_ (fun _ => ?_))
      | exact ih0 _ _ _ _
      | exact LeO.none _
      | refine LeO.ite ?_ ?_
      | refine LeO.bind ?_ (fun _ => ?_)
set_option maxHeartbeats 8000000 in
set_option maxRecDepth 100000 in
theorem spec_Words.calls (k : Nat) (A0 : Option Addr) (c0 : Nat) (l0 : List (S46)) (r : List ByteArray) (w : World) (hr0 : Kd.C k46 w A0 l0.length l0) (hc0 : l0.length ≤ c0) (h : spec_Words.f k l0 = some r) :
    Calls Try.prog 7 #[.slice A0 l0.length c0] w fun e w' => ∃ v0_ : Value, e = .returned (v0_) ∧ Kd.R Kd.string 9 w' w.heap.size (fun _ => True) v0_ r ∧ Below w.heap.size w w' := by
  have hu46 := Try.underlying46
  have HR0 := Aside0.mk hr0
  have HC0 := Aside0.mk hc0
  clear hr0 hc0
  have HB := Aside0.mk (Below.refl w.heap.size w)
  have H : (spec_Words.l0 k ([] : List ByteArray) l0 (l0.length : Int) 0) = some r := h
  clear h
  have H' := Aside0.mk H
  clear H
  go_enter Try.func7, Try.ntmps7
  go_wp2
  go_loopg [3, 8] k (fun kq v3 v8 w' => ∃ (x3_1 : List ByteArray) (x8_1 : Int), v8 = .int .i64 x8_1 ∧ Aside0 (spec_Words.l0 kq x3_1 l0 (l0.length : Int) x8_1 = some r) ∧ Aside0 (kq ≤ k) ∧ Aside0 (Kd.R Kd.string 9 w' w.heap.size (fun _ => True) v3 x3_1) ∧ Aside0 (Below w.heap.size w w'))
  case atStart => exact ⟨(([] : List ByteArray)), (0), (by first | rfl | (simp; done) | (simp [*]; done)), H', ⟨Nat.le_refl _⟩, ⟨by first | exact Kd.R_nil _ _ _ _ _ | exact Kd.N_nil _ _ _ _ _ | exact Kd.V_nil _ _ _ _ _ | exact Kd.Q_nil _ _ _ _ _ | exact Kd.S_nil _ _ _ _ _⟩, ⟨by repeat (first | (with_reducible first | exact HB.out | apply below_alloc | apply pw_below_drewN | apply below_drew1) | exact HB.out)⟩⟩
  case round =>
    clear H'
    obtain ⟨x3_1, x8_1, rfl, HA, HK1, HO_3, HB⟩ := hrel
    cases gk with
    | zero => exact absurd HA.out (by simp [spec_Words.l0])
    | succ k1 =>
      have H := HA.out
      clear HA
      simp only [spec_Words.l0] at H
      by_cases c2 : x8_1 < (l0.length : Int)
      · rw [if_pos c2] at H
        have c2b0 : decide (x8_1 < (l0.length : Int)) = true := decide_eq_true c2
        clear c2
        by_cases c3 : 0 ≤ x8_1
        · rw [if_pos c3] at H
          have c3b0 : decide (0 ≤ x8_1) = true := decide_eq_true c3
          clear c3
          by_cases c4 : x8_1 < (l0.length : Int)
          · rw [if_pos c4] at H
            have c4b0 : decide (x8_1 < (l0.length : Int)) = true := decide_eq_true c4
            clear c4
            by_cases c5 : x3_1.length < 8796093022208
            · rw [if_pos c5] at H
              have LMc5 := Aside0.mk c5
              clear c5
              obtain ⟨y111, hy111⟩ : ∃ y_ : List ByteArray, y_ = (x3_1 ++ [(rd_T46 l0 x8_1).f1]) := ⟨_, rfl⟩
              replace H : (spec_Words.l0 k1 y111 l0 (l0.length : Int) (wrap64 (x8_1 + 1))) = some r := by first | (rw [hy111]; with_reducible exact H) | (have H2_ := (Option.bind_some _ _).symm.trans H; rw [hy111]; with_reducible exact H2_) | (have H2_ := (Option.bind_some _ _).symm.trans H; with_reducible exact H2_) | with_reducible exact H | (rw [hy111]; exact H) | exact H
              have Ny111 := Aside0.mk hy111
              clear hy111
              have H' := Aside0.mk H
              clear H
              have p109 : 0 ≤ (x8_1 : Int) := of_decide_eq_true (by first | (with_reducible assumption) | assumption)
              have q109 : x8_1 < (l0.length : Int) := of_decide_eq_true (by first | (with_reducible assumption) | assumption)
              obtain ⟨ad109, e109, hx109_0, hx109_1⟩ := at_T46 HR0.out x8_1 p109 q109
              cases e109
              replace hx109_0 := (HB.out.cell (World.block_lt_of_cell? w _ hx109_0)).trans hx109_0
              replace hx109_1 := (HB.out.cell (World.block_lt_of_cell? w _ hx109_1)).trans hx109_1
              replace p109 := eq_true p109
              replace q109 := eq_true q109
              go_wp2_with (first | ((with_reducible refine gate_dst (N := 5) rfl ?_); refine box_event ?hg (N := 5) ?hd (cs := #[.int .i64 0, .string (⟨#[]⟩ : ByteArray)]) (t := 46) ?hr ?_; (case hd => rfl); (case hg => rfl); (case hr => first | (go_simp; done) | (go_simp; rfl)); intro gb110 hg w6 hbox hb; have n0_ := Aside0.mk (Kd.R_below (by (with_reducible repeat (first | apply Kd.R_alloc | apply Kd.R_drewN | apply Kd.R_drew)); exact HO_3.out) hb); have n1_ := Aside0.mk (below_step (by repeat (first | (with_reducible first | exact HB.out | apply below_alloc | apply pw_below_drewN | apply below_drew1) | exact HB.out)) hb); have n2_ := Aside0.mk (hbox); have n3_ := Aside0.mk ((by rw [hg]; exact (below_size (by repeat (first | (with_reducible first | exact HB.out | apply below_alloc | apply pw_below_drewN | apply below_drew1) | exact HB.out))) : w.heap.size ≤ gb110)); have n4_ := Aside0.mk ((by rw [hg]; exact (below_size (by repeat (first | (with_reducible first | exact HB.out | apply below_alloc | apply pw_below_drewN | apply below_drew1) | exact HB.out))) : w.heap.size ≤ gb110)); clear HO_3; clear HB; have HO_3 := n0_; have HB := n1_; have BK110 := n2_; have GW110 := n3_; have GE110 := n4_; clear n0_ n1_ n2_ n3_ n4_; clear hb hbox hg; have hcz7_0 : w6.cell? ⟨gb110, 0, none⟩ = some (.int .i64 0) := (blk_cell BK110.out 0).trans rfl; have hcz7_1 : w6.cell? ⟨gb110, 1, none⟩ = some (.string (⟨#[]⟩ : ByteArray)) := (blk_cell BK110.out 1).trans rfl; have hfz7_0 := blk_frozen BK110.out 0; have hfz7_1 := blk_frozen BK110.out 1) | ((with_reducible refine gate_builtin (b := .append) (xs := #[.tmp 12, .tmp 15]) rfl ?_); at_builtin; refine Kd.R_append Kd.string (w0 := w) w.heap.size rfl (.tmp 12) (.tmp 15) 23 9 (.string ⟨#[]⟩) 16 rfl Try.underlying23 info9 rfl (by decide) (by omega) u3 x3_1 ((rd_T46 l0 x8_1).f1) [.string ((rd_T46 l0 x8_1).f1)] (fun _ => True) (fun _ => False) rfl (by first | (go_simp; done) | (go_simp; rfl)) ?aP (fun _ hk => hk.elim) ?aF ?aO ?aB ?aS ?aL ?_; (case aP => exact rfl); (case aB => exact (by repeat (first | (with_reducible first | exact HB.out | apply below_alloc | apply pw_below_drewN | apply below_drew1 | refine below_set ?_ GE110.out) | exact HB.out))); (case aF => exact (fun _ _ => trivial)); (case aO => exact (by (with_reducible repeat (first | apply Kd.R_alloc | apply Kd.R_drewN | apply Kd.R_drew)); exact Kd.R_mono (Kd.R_far (p := ⟨gb110, 1, none⟩) (Kd.R_far (p := ⟨gb110, 0, none⟩) (Kd.R_types HO_3.out BK110.out (by decide)) (fun _ hk => hk.2) (.int .i64 ((rd_T46 l0 x8_1).f0))) (fun _ hk => hk.2) (.string ((rd_T46 l0 x8_1).f1))) (fun _ hk => trivial))); (case aS => exact (below_size (by repeat (first | (with_reducible first | exact HB.out | apply below_alloc | apply pw_below_drewN | apply below_drew1 | refine below_set ?_ GE110.out) | exact HB.out)))); (case aL => have := LMc5.out; omega); intro v112 w8 ho hb hg hat; rw [← Ny111.out] at ho; have n0_ := Aside0.mk (blk_grown (g := gb110) (o := .cells #[.int .i64 ((rd_T46 l0 x8_1).f0), .string ((rd_T46 l0 x8_1).f1)] 46 (0, 0)) (by (with_reducible repeat (first | refine blk_drewN ?_ _ | refine blk_drew ?_ | refine blk_alloc ?_ _)); refine blk_put (cs := #[.int .i64 ((rd_T46 l0 x8_1).f0), .string (⟨#[]⟩ : ByteArray)]) ?_ 1 _ rfl; (with_reducible repeat (first | refine blk_drewN ?_ _ | refine blk_drew ?_ | refine blk_alloc ?_ _)); refine blk_put (cs := #[.int .i64 0, .string (⟨#[]⟩ : ByteArray)]) ?_ 0 _ rfl; (with_reducible repeat (first | refine blk_drewN ?_ _ | refine blk_drew ?_ | refine blk_alloc ?_ _)); exact BK110.out) hg (Kd.R_ne HO_3.out BK110.out (by decide))); have n1_ := Aside0.mk (hb); have n2_ := Aside0.mk (ho); clear BK110; clear HB; clear HO_3; have BK110 := n0_; have HB := n1_; have HO113 := n2_; clear n0_ n1_ n2_; clear ho hb hg hat))
              go_roundg k1
              case measure => have := HK1.out; omega
              case rel => exact ⟨(y111), (wrap64 (x8_1 + 1)), (by first | rfl | (simp; done) | (simp [*]; done)), H', ⟨by have := HK1.out; omega⟩, ⟨by (with_reducible repeat (first | apply Kd.R_alloc | apply Kd.R_drewN | apply Kd.R_drew)); exact HO113.out⟩, ⟨by repeat (first | (with_reducible first | exact HB.out | apply below_alloc | apply pw_below_drewN | apply below_drew1 | refine below_set ?_ GE110.out) | exact HB.out)⟩⟩
            · rw [if_neg c5] at H
              exact absurd H (by simp)
          · rw [if_neg c4] at H
            exact absurd H (by simp)
        · rw [if_neg c3] at H
          exact absurd H (by simp)
      · rw [if_neg c2] at H
        have c2b0 : decide (x8_1 < (l0.length : Int)) = false := decide_eq_false c2
        clear c2
        obtain rfl := Option.some.inj H
        go_wp2
        go_ret
        exact ⟨_, by first | rfl | (simp [errW_none, errW_some] <;> rfl) | (simp [*, errW_none, errW_some] <;> rfl), by (with_reducible repeat (first | apply Kd.R_alloc | apply Kd.R_drewN | apply Kd.R_drew)); exact HO_3.out, by repeat (first | (with_reducible first | exact HB.out | apply below_alloc | apply pw_below_drewN | apply below_drew1) | exact HB.out)⟩

/-! ### spec_ACLResourceType: function 8 -/
def spec_ACLResourceType.f  : Option ((List (S46))) := some (([(⟨1, (⟨#[65, 78, 89]⟩ : ByteArray)⟩ : S46), (⟨2, (⟨#[84, 79, 80, 73, 67]⟩ : ByteArray)⟩ : S46), (⟨3, (⟨#[71, 82, 79, 85, 80]⟩ : ByteArray)⟩ : S46), (⟨4, (⟨#[67, 76, 85, 83, 84, 69, 82]⟩ : ByteArray)⟩ : S46), (⟨5, (⟨#[84, 82, 65, 78, 83, 65, 67, 84, 73, 79, 78, 65, 76, 95, 73, 68]⟩ : ByteArray)⟩ : S46), (⟨6, (⟨#[68, 69, 76, 69, 71, 65, 84, 73, 79, 78, 95, 84, 79, 75, 69, 78]⟩ : ByteArray)⟩ : S46), (⟨7, (⟨#[85, 83, 69, 82]⟩ : ByteArray)⟩ : S46)] : List (S46)))
set_option maxHeartbeats 8000000 in
set_option maxRecDepth 100000 in
theorem spec_ACLResourceType.calls  (r : List (S46)) (w : World) (h : spec_ACLResourceType.f  = some r) :
    Calls Try.prog 8 #[] w fun e w' => ∃ v0_ : Value, e = .returned (v0_) ∧ Kd.R k46 46 w' w.heap.size (fun _ => True) v0_ r ∧ Below w.heap.size w w' := by
  have hu46 := Try.underlying46
  have HB := Aside0.mk (Below.refl w.heap.size w)
  have H : (some (([(⟨1, (⟨#[65, 78, 89]⟩ : ByteArray)⟩ : S46), (⟨2, (⟨#[84, 79, 80, 73, 67]⟩ : ByteArray)⟩ : S46), (⟨3, (⟨#[71, 82, 79, 85, 80]⟩ : ByteArray)⟩ : S46), (⟨4, (⟨#[67, 76, 85, 83, 84, 69, 82]⟩ : ByteArray)⟩ : S46), (⟨5, (⟨#[84, 82, 65, 78, 83, 65, 67, 84, 73, 79, 78, 65, 76, 95, 73, 68]⟩ : ByteArray)⟩ : S46), (⟨6, (⟨#[68, 69, 76, 69, 71, 65, 84, 73, 79, 78, 95, 84, 79, 75, 69, 78]⟩ : ByteArray)⟩ : S46), (⟨7, (⟨#[85, 83, 69, 82]⟩ : ByteArray)⟩ : S46)] : List (S46)))) = some r := h
  clear h
  obtain ⟨y114, hy114⟩ : ∃ y_ : List (S46), y_ = (([(⟨1, (⟨#[65, 78, 89]⟩ : ByteArray)⟩ : S46), (⟨2, (⟨#[84, 79, 80, 73, 67]⟩ : ByteArray)⟩ : S46), (⟨3, (⟨#[71, 82, 79, 85, 80]⟩ : ByteArray)⟩ : S46), (⟨4, (⟨#[67, 76, 85, 83, 84, 69, 82]⟩ : ByteArray)⟩ : S46), (⟨5, (⟨#[84, 82, 65, 78, 83, 65, 67, 84, 73, 79, 78, 65, 76, 95, 73, 68]⟩ : ByteArray)⟩ : S46), (⟨6, (⟨#[68, 69, 76, 69, 71, 65, 84, 73, 79, 78, 95, 84, 79, 75, 69, 78]⟩ : ByteArray)⟩ : S46), (⟨7, (⟨#[85, 83, 69, 82]⟩ : ByteArray)⟩ : S46)] : List (S46))) := ⟨_, rfl⟩
  replace H : (some y114) = some r := by first | (rw [hy114]; with_reducible exact H) | (have H2_ := (Option.bind_some _ _).symm.trans H; rw [hy114]; with_reducible exact H2_) | (have H2_ := (Option.bind_some _ _).symm.trans H; with_reducible exact H2_) | with_reducible exact H | (rw [hy114]; exact H) | exact H
  have Ny114 := Aside0.mk hy114
  clear hy114
  obtain rfl := Option.some.inj H
  go_enter Try.func8, Try.ntmps8
  go_wp2_with (first | ((with_reducible refine gate_dst (N := 8) rfl ?_); refine Kd.R_lit k46 _ 46 ?hg (N := 8) ?hd (xs := ([(⟨1, (⟨#[65, 78, 89]⟩ : ByteArray)⟩ : S46), (⟨2, (⟨#[84, 79, 80, 73, 67]⟩ : ByteArray)⟩ : S46), (⟨3, (⟨#[71, 82, 79, 85, 80]⟩ : ByteArray)⟩ : S46), (⟨4, (⟨#[67, 76, 85, 83, 84, 69, 82]⟩ : ByteArray)⟩ : S46), (⟨5, (⟨#[84, 82, 65, 78, 83, 65, 67, 84, 73, 79, 78, 65, 76, 95, 73, 68]⟩ : ByteArray)⟩ : S46), (⟨6, (⟨#[68, 69, 76, 69, 71, 65, 84, 73, 79, 78, 95, 84, 79, 75, 69, 78]⟩ : ByteArray)⟩ : S46), (⟨7, (⟨#[85, 83, 69, 82]⟩ : ByteArray)⟩ : S46)] : List (S46))) (inner := [.int .i64 1, .string (⟨#[65, 78, 89]⟩ : ByteArray), .int .i64 2, .string (⟨#[84, 79, 80, 73, 67]⟩ : ByteArray), .int .i64 3, .string (⟨#[71, 82, 79, 85, 80]⟩ : ByteArray), .int .i64 4, .string (⟨#[67, 76, 85, 83, 84, 69, 82]⟩ : ByteArray), .int .i64 5, .string (⟨#[84, 82, 65, 78, 83, 65, 67, 84, 73, 79, 78, 65, 76, 95, 73, 68]⟩ : ByteArray), .int .i64 6, .string (⟨#[68, 69, 76, 69, 71, 65, 84, 73, 79, 78, 95, 84, 79, 75, 69, 78]⟩ : ByteArray), .int .i64 7, .string (⟨#[85, 83, 69, 82]⟩ : ByteArray)]) (ok := fun _ => True) (okp := fun _ => True) ?hr ?hp (fun _ hk => hk) trivial (Below.refl _ _) (Nat.le_refl _) (by simp) ?_; (case hd => rfl); (case hg => rfl); (case hr => first | (go_simp; done) | (go_simp; rfl)); (case hp => exact (Reps.c2 (show Kd.M k46 _ _ _ (⟨1, (⟨#[65, 78, 89]⟩ : ByteArray)⟩ : S46) [.int .i64 1, .string (⟨#[65, 78, 89]⟩ : ByteArray)] from (k46_mkM _ _ _ (⟨1, (⟨#[65, 78, 89]⟩ : ByteArray)⟩ : S46) )) (Reps.c2 (show Kd.M k46 _ _ _ (⟨2, (⟨#[84, 79, 80, 73, 67]⟩ : ByteArray)⟩ : S46) [.int .i64 2, .string (⟨#[84, 79, 80, 73, 67]⟩ : ByteArray)] from (k46_mkM _ _ _ (⟨2, (⟨#[84, 79, 80, 73, 67]⟩ : ByteArray)⟩ : S46) )) (Reps.c2 (show Kd.M k46 _ _ _ (⟨3, (⟨#[71, 82, 79, 85, 80]⟩ : ByteArray)⟩ : S46) [.int .i64 3, .string (⟨#[71, 82, 79, 85, 80]⟩ : ByteArray)] from (k46_mkM _ _ _ (⟨3, (⟨#[71, 82, 79, 85, 80]⟩ : ByteArray)⟩ : S46) )) (Reps.c2 (show Kd.M k46 _ _ _ (⟨4, (⟨#[67, 76, 85, 83, 84, 69, 82]⟩ : ByteArray)⟩ : S46) [.int .i64 4, .string (⟨#[67, 76, 85, 83, 84, 69, 82]⟩ : ByteArray)] from (k46_mkM _ _ _ (⟨4, (⟨#[67, 76, 85, 83, 84, 69, 82]⟩ : ByteArray)⟩ : S46) )) (Reps.c2 (show Kd.M k46 _ _ _ (⟨5, (⟨#[84, 82, 65, 78, 83, 65, 67, 84, 73, 79, 78, 65, 76, 95, 73, 68]⟩ : ByteArray)⟩ : S46) [.int .i64 5, .string (⟨#[84, 82, 65, 78, 83, 65, 67, 84, 73, 79, 78, 65, 76, 95, 73, 68]⟩ : ByteArray)] from (k46_mkM _ _ _ (⟨5, (⟨#[84, 82, 65, 78, 83, 65, 67, 84, 73, 79, 78, 65, 76, 95, 73, 68]⟩ : ByteArray)⟩ : S46) )) (Reps.c2 (show Kd.M k46 _ _ _ (⟨6, (⟨#[68, 69, 76, 69, 71, 65, 84, 73, 79, 78, 95, 84, 79, 75, 69, 78]⟩ : ByteArray)⟩ : S46) [.int .i64 6, .string (⟨#[68, 69, 76, 69, 71, 65, 84, 73, 79, 78, 95, 84, 79, 75, 69, 78]⟩ : ByteArray)] from (k46_mkM _ _ _ (⟨6, (⟨#[68, 69, 76, 69, 71, 65, 84, 73, 79, 78, 95, 84, 79, 75, 69, 78]⟩ : ByteArray)⟩ : S46) )) (Reps.c2 (show Kd.M k46 _ _ _ (⟨7, (⟨#[85, 83, 69, 82]⟩ : ByteArray)⟩ : S46) [.int .i64 7, .string (⟨#[85, 83, 69, 82]⟩ : ByteArray)] from (k46_mkM _ _ _ (⟨7, (⟨#[85, 83, 69, 82]⟩ : ByteArray)⟩ : S46) )) (Reps.none _ _))))))))); intro v115 w1 ho2 hb hg_ hnew_; clear hg_ hnew_; (first | rw [← Ny114.out] at ho2 | (simp only [Int.reduceToNat] at ho2; rw [← Ny114.out] at ho2)); have n0_ := Aside0.mk (Kd.R_lower ho2 (below_size (by repeat (first | (with_reducible first | exact HB.out | apply below_alloc | apply pw_below_drewN | apply below_drew1) | exact HB.out)))); have n1_ := Aside0.mk (below_step (by repeat (first | (with_reducible first | exact HB.out | apply below_alloc | apply pw_below_drewN | apply below_drew1) | exact HB.out)) hb); clear HB; have HO116 := n0_; have HB := n1_; clear n0_ n1_; clear hb ho2))
  go_ret
  exact ⟨_, by first | rfl | (simp [errW_none, errW_some] <;> rfl) | (simp [*, errW_none, errW_some] <;> rfl), by (with_reducible repeat (first | apply Kd.R_alloc | apply Kd.R_drewN | apply Kd.R_drew)); exact HO116.out, by repeat (first | (with_reducible first | exact HB.out | apply below_alloc | apply pw_below_drewN | apply below_drew1) | exact HB.out)⟩

/-! ### laws_FnACLResourceTypeWords: function 3 -/
def laws_FnACLResourceTypeWords.f (k : Nat)  : Option (Bool) := (impl_ACLResourceTypeStrings.f).bind fun t117 => ((spec_ACLResourceType.f).bind fun t120 => ((spec_Words.f k t120).bind fun t123 => ((laws_sameWords.f k t117 t123).bind fun t126 => (some t126))))
theorem laws_FnACLResourceTypeWords.mono : ∀ k, LeO (laws_FnACLResourceTypeWords.f k ) (laws_FnACLResourceTypeWords.f (k + 1) ) := by
  intro  k
  unfold laws_FnACLResourceTypeWords.f
  repeat' first
      | (with_reducible exact laws_sameWords.mono _ _ _)
      | (with_reducible exact spec_Words.mono _ _)
      | (with_reducible exact LeO.refl _)
      | (with_reducible exact LeO.none _)
      | (with_reducible refine LeO.ite ?_ ?_)
      | (with_reducible refine LeO.bind ?_ (fun _ => ?_))
      | exact laws_sameWords.mono _ _ _
      | exact spec_Words.mono _ _
      | exact LeO.none _
      | refine LeO.ite ?_ ?_
      | refine LeO.bind ?_ (fun _ => ?_)
set_option maxHeartbeats 8000000 in
set_option maxRecDepth 100000 in
theorem laws_FnACLResourceTypeWords.calls (k : Nat)  (r : Bool) (w : World) (h : laws_FnACLResourceTypeWords.f k  = some r) :
    Calls Try.prog 3 #[] w fun e w' => e = .returned (.bool r) ∧ Below w.heap.size w w' := by
  have HB := Aside0.mk (Below.refl w.heap.size w)
  have H : ((impl_ACLResourceTypeStrings.f).bind fun t117 => ((spec_ACLResourceType.f).bind fun t120 => ((spec_Words.f k t120).bind fun t123 => ((laws_sameWords.f k t117 t123).bind fun t126 => (some t126))))) = some r := h
  clear h
  replace H := Option.bind_eq_some_iff.mp H
  obtain ⟨t117, A10, H⟩ := H
  replace H : ((spec_ACLResourceType.f).bind fun t120 => ((spec_Words.f k t120).bind fun t123 => ((laws_sameWords.f k t117 t123).bind fun t126 => (some t126)))) = some r := H
  have A1 := Aside0.mk A10
  clear A10
  replace H := Option.bind_eq_some_iff.mp H
  obtain ⟨t120, A20, H⟩ := H
  replace H : ((spec_Words.f k t120).bind fun t123 => ((laws_sameWords.f k t117 t123).bind fun t126 => (some t126))) = some r := H
  have A2 := Aside0.mk A20
  clear A20
  replace H := Option.bind_eq_some_iff.mp H
  obtain ⟨t123, A30, H⟩ := H
  replace H : ((laws_sameWords.f k t117 t123).bind fun t126 => (some t126)) = some r := H
  have A3 := Aside0.mk A30
  clear A30
  replace H := Option.bind_eq_some_iff.mp H
  obtain ⟨t126, A40, H⟩ := H
  replace H : (some t126) = some r := H
  have A4 := Aside0.mk A40
  clear A40
  obtain rfl := Option.some.inj H
  go_enter Try.func3, Try.ntmps3
  go_wp2_with (first | ((with_reducible refine gate_callee (f := 6) rfl ?_); refine goesL_ (some 1) rfl rfl Try.func6 (by kernel_rfl) rfl #[] rfl (by (try simp only [List.map_toArray, List.map_cons, List.map_nil]); first | done | rfl | (simp only [List.length_drop, List.length_take]; rfl)) ?_; (with_reducible refine (impl_ACLResourceTypeStrings.calls  t117 _ A1.out).mono ?_); rintro e w5 ⟨v118, rfl, ho0, hb⟩; refine ⟨_, rfl, ?_⟩; have n0_ := Aside0.mk (Kd.R_lower ho0 (below_size (by repeat (first | (with_reducible first | exact HB.out | apply below_alloc | apply pw_below_drewN | apply below_drew1) | exact HB.out)))); have n1_ := Aside0.mk (below_step (by repeat (first | (with_reducible first | exact HB.out | apply below_alloc | apply pw_below_drewN | apply below_drew1) | exact HB.out)) hb); clear HB; have HO119 := n0_; have HB := n1_; clear n0_ n1_; (try clear hb); (try clear hb2); (try clear hk); (try clear hi); (try clear ho0)) | ((with_reducible refine gate_callee (f := 8) rfl ?_); refine goesL_ (some 2) rfl rfl Try.func8 (by kernel_rfl) rfl #[] rfl (by (try simp only [List.map_toArray, List.map_cons, List.map_nil]); first | done | rfl | (simp only [List.length_drop, List.length_take]; rfl)) ?_; (with_reducible refine (spec_ACLResourceType.calls  t120 _ A2.out).mono ?_); rintro e w6 ⟨v121, rfl, ho0, hb⟩; refine ⟨_, rfl, ?_⟩; have n0_ := Aside0.mk (Kd.R_below (by (with_reducible repeat (first | apply Kd.R_alloc | apply Kd.R_drewN | apply Kd.R_drew)); exact HO119.out) hb); have n1_ := Aside0.mk (Kd.R_lower ho0 (below_size (by repeat (first | (with_reducible first | exact HB.out | apply below_alloc | apply pw_below_drewN | apply below_drew1) | exact HB.out)))); have n2_ := Aside0.mk (below_step (by repeat (first | (with_reducible first | exact HB.out | apply below_alloc | apply pw_below_drewN | apply below_drew1) | exact HB.out)) hb); clear HO119; clear HB; have HO119 := n0_; have HO122 := n1_; have HB := n2_; clear n0_ n1_ n2_; (try clear hb); (try clear hb2); (try clear hk); (try clear hi); (try clear ho0); obtain ⟨Ao7, co7, eo7⟩ := Kd.R_slice HO122.out; subst eo7) | ((with_reducible refine gate_callee (f := 7) rfl ?_); refine goesL_ (some 3) rfl rfl Try.func7 (by kernel_rfl) rfl #[.slice Ao7 t120.length co7] rfl (by (try simp only [List.map_toArray, List.map_cons, List.map_nil]); first | done | rfl | (simp only [List.length_drop, List.length_take]; rfl)) ?_; (with_reducible refine (spec_Words.calls k _ _ t120 t123 _ ?side1 ?side2 A3.out).mono ?_); (case side1 => repeat (first | exact (Kd.R_reads' HO122.out).2.2 | (with_reducible refine Kd.C_alloc ?_ _) | (with_reducible refine Kd.C_drewN ?_ _) | (with_reducible refine Kd.C_drew ?_))); (case side2 => exact (Kd.R_reads' HO122.out).2.1); rintro e w8 ⟨v124, rfl, ho0, hb⟩; refine ⟨_, rfl, ?_⟩; have n0_ := Aside0.mk (Kd.R_elder' (by (with_reducible repeat (first | apply Kd.R_alloc | apply Kd.R_drewN | apply Kd.R_drew)); exact HO119.out) (Kd.R_base ho0) hb); have n1_ := Aside0.mk (Kd.R_below (by (with_reducible repeat (first | apply Kd.R_alloc | apply Kd.R_drewN | apply Kd.R_drew)); exact HO122.out) hb); have n2_ := Aside0.mk (Kd.R_lower (Kd.R_new' ho0 (Kd.R_lt (by (with_reducible repeat (first | apply Kd.R_alloc | apply Kd.R_drewN | apply Kd.R_drew)); exact HO119.out))) (below_size (by repeat (first | (with_reducible first | exact HB.out | apply below_alloc | apply pw_below_drewN | apply below_drew1) | exact HB.out)))); have n3_ := Aside0.mk (below_step (by repeat (first | (with_reducible first | exact HB.out | apply below_alloc | apply pw_below_drewN | apply below_drew1) | exact HB.out)) hb); clear HO119; clear HO122; clear HB; have HO119 := n0_; have HO122 := n1_; have HO125 := n2_; have HB := n3_; clear n0_ n1_ n2_ n3_; (try clear hb); (try clear hb2); (try clear hk); (try clear hi); (try clear ho0); obtain ⟨Ao9, co9, eo9⟩ := Kd.R_slice HO119.out; subst eo9; obtain ⟨Ao10, co10, eo10⟩ := Kd.R_slice HO125.out; subst eo10) | ((with_reducible refine gate_callee (f := 5) rfl ?_); refine goesL_ (some 4) rfl rfl Try.func5 (by kernel_rfl) rfl #[.slice Ao9 t117.length co9, .slice Ao10 t123.length co10] rfl (by (try simp only [List.map_toArray, List.map_cons, List.map_nil]); first | done | rfl | (simp only [List.length_drop, List.length_take]; rfl)) ?_; (with_reducible refine (laws_sameWords.calls k _ _ t117 _ _ t123 t126 _ ?side1 ?side2 ?side3 ?side4 A4.out).mono ?_); (case side1 => repeat (first | exact (Kd.R_reads' HO119.out).2.2 | (with_reducible refine Kd.C_alloc ?_ _) | (with_reducible refine Kd.C_drewN ?_ _) | (with_reducible refine Kd.C_drew ?_))); (case side2 => exact (Kd.R_reads' HO119.out).2.1); (case side3 => repeat (first | exact (Kd.R_reads' HO125.out).2.2 | (with_reducible refine Kd.C_alloc ?_ _) | (with_reducible refine Kd.C_drewN ?_ _) | (with_reducible refine Kd.C_drew ?_))); (case side4 => exact (Kd.R_reads' HO125.out).2.1); rintro e w' ⟨rfl, ⟨nd, rfl⟩⟩; refine ⟨_, rfl, ?_⟩))
  go_ret
  exact ⟨by first | rfl | (simp [errW_none, errW_some] <;> rfl) | (simp [*, errW_none, errW_some] <;> rfl), by repeat (first | (with_reducible first | exact HB.out | apply below_alloc | apply pw_below_drewN | apply below_drew1) | exact HB.out)⟩

/-- THE ONE PURE STATEMENT of laws_FnACLResourceTypeWords: yours. -/
def laws_FnACLResourceTypeWords.Pure : Prop := ∃ k, laws_FnACLResourceTypeWords.f k  = some true
theorem laws_FnACLResourceTypeWords.walk (P : laws_FnACLResourceTypeWords.Pure)  (w : World)  :
    Calls Try.prog 3 #[] w fun e w' => e = .returned (.bool true) ∧ Below w.heap.size w w' := by
  obtain ⟨k, h⟩ := P  
  refine (laws_FnACLResourceTypeWords.calls k  true w h).mono ?_
  rintro e w' ⟨rfl, hd⟩
  exact ⟨rfl, hd⟩

end Go.Proofs.Ytfimokbgggimmaa.PFnACLResourceTypeWords
