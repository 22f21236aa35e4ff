/- The law FnReadTags, walked. -/
import Derived.Test.YthlfepgcjomhpaaRtG
import Derived.Test.YthlfepgcjomhpaaRtC
namespace Go.Proofs.Ythlfepgcjomhpaa.Kf
set_option linter.unusedVariables false
set_option linter.unusedSimpArgs false
open Go Go.RowKit

theorem tgs_lt {w : World} {B : Nat} {u : List (Nat × List UInt8)} {v : Value} (h : TgsC w B u v) : ∀ x ∈ u, x.1 < 4294967296 := by
  obtain ⟨f, _, hf⟩ := h
  intro x hx
  obtain ⟨i, hi, rfl⟩ := List.getElem_of_mem hx
  exact (hf i _ (List.getElem?_eq_getElem hi)).1
theorem tgs_sl {w : World} {B : Nat} {u : List (Nat × List UInt8)} {v : Value} (h : TgsC w B u v) : ∃ A c, v = .slice A u.length c := by
  obtain ⟨f, hs, _⟩ := h
  obtain ⟨A, c, e, _⟩ := hs.sl
  exact ⟨A, c, e⟩

theorem tgs_more {w : World} {B B' : Nat} {u : List (Nat × List UInt8)} {v : Value} (h : TgsC w B u v) (hb : B ≤ B') : TgsC w B' u v := by
  obtain ⟨f, hs, hf⟩ := h
  exact ⟨f, hs.more hb, fun j x hx => let ⟨p, vv, q, r⟩ := hf j x hx; ⟨p, vv, q, r.more hb⟩⟩

set_option maxRecDepth 100000 in
set_option maxHeartbeats 2000000 in
theorem law_rt {w : World} {AU AR : Option Addr} {cU cR : Nat} {u : List (Nat × List UInt8)} {rest : List UInt8} (hU : TgsC w w.heap.size u (.slice AU u.length cU)) (hR : Oc w w.heap.size (.slice AR rest.length cR) rest) :
    Calls Try.prog 3 #[.slice AU u.length cU, .slice AR rest.length cR] w fun e w' => e = .returned (.bool true) ∧ Only (fun _ => False) w w' := by
  obtain ⟨i0, hi, hz0, hz1, hz2⟩ := info_u8
  have HU := Lib.hid hU
  have HR := Lib.hid hR
  clear hU hR
  by_cases hr2 : (rest.length : Int) > 2000
  · clear HR
    by_cases hr1 : (rest.length : Int) > 2147483647
    all_goals
      go_enter Try.func3, Try.ntmps3
      go_wp2_with (first
        | (go_at_call 5; refine (fits5 _ _ _ _ (Nat.le_refl _) HU.out).mono ?_; rintro e1 w1 ⟨b1, rfl, hb1, hw1⟩; have HB1 := Lib.hid hb1; have HW1 := Lib.hid hw1; clear hb1 hw1; cases b1)
        | (go_at_call 6; refine (tags_fit _ _ _ _ HW1.out.size (TgsC.keepU HU.out (HW1.out.kept0 (Nat.le_refl _))) (by first | exact HB1.out rfl | exact HB1.out trivial | exact HB1.out)).mono ?_; rintro e2 w2 ⟨b2, rfl, _, hw2⟩; have HW2 := Lib.hid (HW1.out.trans hw2); clear hw2; cases b2)
        | fail)
      all_goals go_ret
      all_goals first
        | exact ⟨rfl, HW2.out⟩
        | exact ⟨rfl, HW1.out⟩
  have hr1 : ¬ ((rest.length : Int) > 2147483647) := by omega
  go_enter Try.func3, Try.ntmps3
  go_wp2_with (first
    | (go_at_call 5; refine (fits5 _ _ _ _ (Nat.le_refl _) HU.out).mono ?_; rintro e1 w1 ⟨b1, rfl, hb1, hw1⟩; have HB1 := Lib.hid hb1; have HW1 := Lib.hid hw1; clear hb1 hw1; cases b1)
    | (go_at_call 6; refine (tags_fit _ _ _ _ HW1.out.size (TgsC.keepU HU.out (HW1.out.kept0 (Nat.le_refl _))) (by first | exact HB1.out rfl | exact HB1.out trivial | exact HB1.out)).mono ?_; rintro e2 w2 ⟨b2, rfl, hb2, hw2⟩; have HB2 := Lib.hid hb2; have HW2 := Lib.hid (HW1.out.trans hw2); clear hw2 hb2 HB1 HW1; cases b2)
    | (go_at_call 8; have hx := HW2.out; clear hx; have hb2 : u.length ≤ 50 ∧ ∀ x ∈ u, x.2.length ≤ 2000 := (by first | exact HB2.out rfl | exact HB2.out trivial | exact HB2.out); have hul := hb2.1; have hS := lastT_up (fun x hx => ⟨tgs_lt HU.out x hx, hb2.2 x hx⟩); clear hb2; refine (tags_of _ _ _ _ HW2.out.size (TgsC.keepU HU.out (HW2.out.kept0 (Nat.le_refl _))) (by omega)).mono ?_; rintro e3 w3 ⟨vv3, rfl, ht3, hw3⟩; obtain ⟨A3, c3, rfl⟩ := tgs_sl ht3; have HT3 := Lib.hid ht3; have HW3 := Lib.hid (HW2.out.trans hw3); have HS := Lib.hid hS; have HUL := Lib.hid hul; clear ht3 hw3 HW2 HB2 hul hS)
    | (go_at_call 7; have hx := HW3.out; clear hx; refine (sp_last _ _ _ _ (Nat.le_refl _) HT3.out (by have := HUL.out; omega)).mono ?_
       rintro e4 w4 ⟨vv4, rfl, ht4⟩
       obtain ⟨ht4, hw4⟩ := LtR.tgs ht4 (Nat.le_refl _)
       obtain ⟨hs1, hs2, hs3⟩ := HS.out
       have hs4 : (lastT u).length ≤ 50 := by have := HUL.out; omega
       clear HUL HS
       generalize lastT u = want at *
       obtain ⟨A4, c4, rfl⟩ := tgs_sl ht4
       have hwu : want.length < 9223372036854775808 := by omega
       have HT4 := Lib.hid ht4
       have HW4 := Lib.hid (HW3.out.trans hw4)
       have HS1 := Lib.hid hs1
       have HS2 := Lib.hid hs2
       have HS4 := Lib.hid hs4
       have HDL := Lib.hid (dataT_len (rest := rest) hs4 hs2 (by omega))
       clear ht4 hw4 HT3 HW3 hs1 hs2 hs3 hs4)
    | (go_at_call 9; refine (sp_uvarint _ want.length (by have := HS4.out; omega)).mono ?_; rintro e5 w5 ⟨v5, rfl, ho5, hw5⟩; have HV5 := Lib.hid ho5; have HW5 := Lib.hid (HW4.out.trans hw5); have HT5 := Lib.hid (TgsC.keepU HT4.out (hw5.kept0 (Nat.le_refl _))); have HZ5 := Lib.hid hw5.size; clear ho5 hw5 HT4)
    | (go_at_call 10; refine (tag_bytes _ _ _ _ HZ5.out HT5.out (by have := HS4.out; omega) (fun x hx => by have := HS2.out x hx; omega) (by have := HDL.out.2.2; unfold lim2; omega)).mono ?_; rintro e6 w6 ⟨v6, rfl, ho6, hw6⟩; have HV6 := Lib.hid ho6.oc; have HQ6 := Lib.hid (HV5.out.keep hw6); have HW6 := Lib.hid (HW5.out.trans hw6); have HT6 := Lib.hid (TgsC.keepU HT5.out (hw6.kept0 HZ5.out)); have HZ6 := Lib.hid (Nat.le_trans HZ5.out hw6.size); clear ho6 hw6 HT5 HV5 HW5 HZ5)
    | (at_builtin; refine wp_app_oc rfl (.tmp 34) (.tmp 36) 23 rfl Try.underlying23 hi hz0 hz1 hz2 rfl HQ6.out rfl HV6.out HZ6.out (by have h1 := HDL.out.1; unfold dataT at h1; simp only [List.length_append] at h1; unfold lim2; omega) ?_
       intro v7 w7 ho7 hw7
       have HQ7 := Lib.hid ho7
       have HW7 := Lib.hid (HW6.out.own hw7 HW4.out.size)
       have HT7 := Lib.hid (TgsC.keepU HT6.out (hw7.kept HZ6.out (fun j h1 h2 => Nat.lt_irrefl _ (Nat.lt_of_lt_of_le h1 h2))))
       have HZ7 := Lib.hid (Nat.le_trans HZ6.out hw7.size)
       clear ho7 hw7 HQ6 HV6 HW6 HT6 HZ6)
    | (at_builtin; refine wp_app_oc rfl (.tmp 38) (.tmp 39) 23 rfl Try.underlying23 hi hz0 hz1 hz2 rfl HQ7.out rfl (HR.out.keep (HW7.out.kept0 (Nat.le_refl _))) HZ7.out (by have h1 := HDL.out.1; unfold dataT at h1; simp only [List.length_append] at h1 ⊢; unfold lim2; omega) ?_
       intro v8 w8 ho8 hw8
       have HQ8 : Hid (Own 5 _ w8 v8 (dataT want rest)) := Lib.hid ho8
       have HW8 := Lib.hid (HW7.out.own hw8 HW4.out.size)
       have HT8 := Lib.hid (TgsC.keepU HT7.out (hw8.kept HZ7.out (fun j h1 h2 => Nat.lt_irrefl _ (Nat.lt_of_lt_of_le h1 h2))))
       have HZ8 := Lib.hid (Nat.le_trans HZ7.out hw8.size)
       clear ho8 hw8 HQ7 HW7 HT7 HZ7 HR)
    | (go_at_call 11; refine (rt_impl HQ8.out.oc HDL.out.2.1 (dataT_dec HS1.out HS4.out) HDL.out.1 HS1.out (by have := HS4.out; omega) (fun x hx => by have := HS2.out x hx; omega)).mono ?_
       rintro e9 w9 ⟨u9, acc, rfl, ht9, hm9, hw9⟩
       have ht9 := ht9.tgs (fun e he => (upTags_lt want 0 HS1.out e.1 (by rw [← hm9]; exact List.mem_map_of_mem he)).1)
       rw [hm9] at ht9
       obtain ⟨A9, c9, rfl⟩ := tgs_sl ht9
       have HT9 := Lib.hid ht9
       have HQ9 := Lib.hid (HQ8.out.keep hw9)
       have HW9 := Lib.hid (HW8.out.trans hw9)
       have HTW9 := Lib.hid (TgsC.keepU HT8.out (hw9.kept0 HZ8.out))
       have HZ9 := Lib.hid (Nat.le_trans HZ8.out hw9.size)
       clear ht9 hm9 hw9 HQ8 HW8 HT8 HZ8)
    | (go_at_call 12; refine (sk_impl HQ9.out.oc HDL.out.2.1 (dataT_dec HS1.out HS4.out) HDL.out.1).mono ?_
       rintro e10 w10 ⟨rfl, hw10⟩
       have HT10 := Lib.hid (TgsC.keepU HT9.out (hw10.kept0 (Nat.le_refl _)))
       have HTW10 := Lib.hid (TgsC.keepU HTW9.out (hw10.kept0 HZ9.out))
       have HW10 := Lib.hid (HW9.out.trans hw10)
       have HZ10 := Lib.hid (Nat.le_trans HZ9.out hw10.size)
       have HY10 := Lib.hid hw10.size
       clear hw10 HQ9 HT9 HTW9 HW9 HZ9)
    | (go_at_call 8; refine (tags_of _ _ _ _ HY10.out HT10.out (by have := HS4.out; omega)).mono ?_
       rintro e11 w11 ⟨vv11, rfl, ht11, hw11⟩
       obtain ⟨A11, c11, rfl⟩ := tgs_sl ht11
       have HT11 := Lib.hid ht11
       have HTW11 := Lib.hid (TgsC.keepU HTW10.out (hw11.kept0 HZ10.out))
       have HW11 := Lib.hid (HW10.out.trans hw11)
       have HZ11 := Lib.hid (Nat.le_trans HZ10.out hw11.size)
       clear ht11 hw11 HT10 HTW10 HW10 HZ10 HY10)
    | (go_at_call 7; refine (sp_last _ _ _ _ (Nat.le_refl _) HT11.out (by have := HS4.out; omega)).mono ?_
       rintro e12 w12 ⟨vv12, rfl, ht12⟩
       obtain ⟨ht12, hw12⟩ := LtR.tgs ht12 (Nat.le_refl _)
       rw [lastT_id HS1.out] at ht12
       obtain ⟨A12, c12, rfl⟩ := tgs_sl ht12
       have HT12 := Lib.hid ht12
       have HTW12 := Lib.hid (TgsC.keepU HTW11.out (hw12.kept0 HZ11.out))
       have HW12 := Lib.hid (HW11.out.trans hw12)
       have HZ12 := Lib.hid (Nat.le_trans HZ11.out hw12.size)
       clear ht12 hw12 HT11 HTW11 HW11 HZ11)
    | (go_at_call 13; refine (same_tags _ _ want _ _ (Nat.le_refl _) HT12.out (tgs_more HTW12.out HZ12.out) (by have := HS4.out; omega) (fun x hx => by have := HS2.out x hx; omega)).mono ?_
       rintro e13 w13 ⟨rfl, hw13⟩
       have HW13 := Lib.hid (HW12.out.trans hw13)
       clear hw13 HT12 HTW12 HW12 HZ12)
    | fail)
  all_goals go_ret
  all_goals first
    | exact ⟨rfl, HW13.out⟩
    | exact ⟨rfl, HW2.out⟩
    | exact ⟨rfl, HW1.out⟩
end Go.Proofs.Ythlfepgcjomhpaa.Kf
