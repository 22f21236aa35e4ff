/- FnReadTags: tags as octets, and as the same tags. -/
import Derived.Test.YthlfepgcjomhpaaRtF
import Derived.Test.YthlfepgcjomhpaaTagG
import Derived.Test.YthlfepgcjomhpaaSpS
namespace Go.Proofs.Ythlfepgcjomhpaa.Kf
set_option linter.unusedVariables false
set_option linter.unusedSimpArgs false
open Go Go.RowKit

theorem own_tbox {U base b t : Nat} {w : World} {v : Value} {s : List UInt8} {cs : Array Value} (h : Own U base w v s) (hb : w.heap[b]? = some (.cells cs t (0, 0))) (hne : t ≠ U) : some b ≠ v.ownBlock := by
  rcases h.2 with ⟨rfl, _⟩ | ⟨g, cap, cur, rfl, _, hh, _⟩
  · simp [Value.ownBlock]
  · intro e
    have e1 : b = g := by simpa [Value.ownBlock] using e
    subst e1
    rw [hb] at hh
    injection hh with hh
    injection hh with _ hh
    exact hne hh
theorem encTags_le' (l : List (Nat × List UInt8)) (k : Nat) : (encTags (l.take k)).length ≤ (encTags l).length := by
  induction l generalizing k with
  | nil => simp
  | cons x l ih =>
    obtain ⟨j, u⟩ := x
    cases k with
    | zero => simp [encTags]
    | succ k =>
      have := ih k
      simp only [List.take_succ_cons, encTags, List.length_append]
      omega
set_option maxRecDepth 100000 in
set_option maxHeartbeats 1000000 in
theorem tag_bytes (w : World) (B : Nat) (u : List (Nat × List UInt8)) (v : Value) (hB : B ≤ w.heap.size) (hU : TgsC w B u v) (hlen : u.length ≤ 32767) (hval : ∀ x ∈ u, x.2.length ≤ 1000000) (hl : (encTags u).length ≤ lim2) :
    Calls Try.prog 10 #[v] w (SpP 5 w (encTags u)) := by
  obtain ⟨i0, hi, hz0, hz1, hz2⟩ := info_u8
  have HB := Lib.hid hB
  have HVAL := Lib.hid hval
  have HL := Lib.hid hl
  obtain ⟨fu, hsu, _⟩ := id hU
  obtain ⟨AU, cU, rfl, hcU⟩ := hsu.sl
  have HU := Lib.hid hU
  clear hB hU hsu hval hl
  go_enter Try.func10, Try.ntmps10
  go_wp2_with fail
  go_loopw [3, 8] (fun q i wr => ∃ k : Nat, k ≤ u.length ∧ i = .int .i64 k ∧ Own 5 w.heap.size wr q (encTags (u.take k)) ∧ Only (fun _ => False) w wr) (fun _ i _ => u.length - (intOf i).toNat)
  case atStart => exact ⟨0, Nat.zero_le _, rfl, World.ownsRow_nil _ _ _ _, Only.refl _ _⟩
  case round =>
    obtain ⟨k, hk, rfl, hq, hwl⟩ := hrel
    have HQ := Lib.hid hq
    have HWL := Lib.hid hwl
    by_cases hlt : k < u.length
    · obtain ⟨b, o, A1, n1, c1, rfl, _, hbB, hk32, hocx, ck, cx⟩ := (TgsC.keepU HU.out (hwl.kept0 HB.out)).at_ hlt
      have hn1 : n1 = u[k].2.length := by obtain ⟨A', c', e, _⟩ := hocx.sl; injection e
      have hstep := encTags_take hlt
      have hle := encTags_le' u (k + 1)
      have hvk := HVAL.out _ (List.getElem_mem hlt)
      rw [hstep, List.length_append, List.length_append, List.length_append] at hle
      have HST := Lib.hid hstep
      have HLE := Lib.hid hle
      have HXO := Lib.hid hocx
      clear hocx hstep hle hq hwl
      generalize u[k] = uk at *
      obtain ⟨key, val⟩ := uk
      simp only at ck cx hk32 HXO HST HLE hn1 hvk
      subst hn1
      have HL0 := HL.out
      have hlt' : (k : Int) < (u.length : Int) := by omega
      have e9 : wrap64 ((k : Int) + 1) = (k : Int) + 1 := by unfold wrap64; omega
      generalize htk : encTags (u.take k) = tk at *
      have hbw : b < wr.heap.size := by have := HWL.out.size; have := HB.out; omega
      have hkey : key < 9223372036854775808 := by omega
      have hvl : val.length < 9223372036854775808 := by omega
      have HL1 : Hid (tk.length + (uvEnc key).length ≤ lim2) := Lib.hid (by have h8 := HLE.out; omega)
      have HL2 : Hid ((tk ++ uvEnc key).length + (uvEnc val.length).length ≤ lim2) := Lib.hid (by have h8 := HLE.out; rw [List.length_append]; omega)
      have HL3 : Hid ((tk ++ uvEnc key ++ uvEnc val.length).length + val.length ≤ lim2) := Lib.hid (by have h8 := HLE.out; rw [List.length_append, List.length_append]; omega)
      have HKEY := Lib.hid hkey
      have HVL := Lib.hid hvl
      clear htk hkey hvl HL0
      have HBX := Lib.hid (heap_alloc_new wr (.cells #[.int .u32 (key : Int), .slice A1 val.length c1] 56))
      have HQ3 := Lib.hid (HQ.out.keep ((Only.refl (fun _ => False) wr).alloc (.cells #[.int .u32 (key : Int), .slice A1 val.length c1] 56)))
      have O3 := Lib.hid (HWL.out.alloc (.cells #[.int .u32 (key : Int), .slice A1 val.length c1] 56))
      have HX3 := Lib.hid (HXO.out.keep (((Only.refl (fun _ => False) wr).alloc (.cells #[.int .u32 (key : Int), .slice A1 val.length c1] 56)).kept0 (Nat.le_trans HB.out HWL.out.size)))
      clear HQ HWL HXO
      go_wp2_with (first
        | (go_at_call 9; have hx := O3.out; clear hx; refine (sp_uvarint _ key HKEY.out).mono ?_; rintro e4 w4 ⟨v4, rfl, ho4, hw4⟩; have HV4 := Lib.hid ho4.oc; have O4 := Lib.hid (O3.out.trans hw4); have HQ4 := Lib.hid (HQ3.out.keep hw4); have HX4 := Lib.hid (HX3.out.keep (hw4.kept0 (Nat.le_trans HB.out O3.out.size))); have hb4 := (hw4.block _ (lt_of_block HBX.out) id).trans HBX.out; have HB4 := Lib.hid hb4; have y4 := tbox1 hb4; clear ho4 hw4 O3 HQ3 HX3 HBX hb4)
        | (at_builtin; refine wp_app_ocg rfl (.tmp 12) (.tmp 16) 23 rfl Try.underlying23 hi hz0 hz1 hz2 rfl HQ4.out rfl HV4.out O4.out.size HL1.out ?_; intro v5 w5 ho5 hw5 hg5; have HQ5 := Lib.hid ho5; have O5 := Lib.hid (O4.out.own hw5 (Nat.le_refl _)); have HX5 := Lib.hid (HX4.out.keep (hw5.kept (Nat.le_trans HB.out O4.out.size) (fun j h1 h2 => Nat.lt_irrefl _ (Nat.lt_of_lt_of_le h1 (Nat.le_trans HB.out h2))))); have hb5 := (hg5.block _ (lt_of_block HB4.out) (own_tbox HQ4.out HB4.out (by decide))).trans HB4.out; have HB5 := Lib.hid hb5; have y5 := tbox1 hb5; clear ho5 hw5 hg5 HQ4 HV4 O4 HX4 HB4 hb5)
        | (at_builtin; refine wp_app_ocg rfl (.tmp 18) (.tmp 23) 23 rfl Try.underlying23 hi hz0 hz1 hz2 rfl HQ6.out rfl HV6.out O6.out.size HL2.out ?_; intro v7 w7 ho7 hw7 hg7; have HQ7 := Lib.hid ho7; have O7 := Lib.hid (O6.out.own hw7 (Nat.le_refl _)); have HX7 := Lib.hid (HX6.out.keep (hw7.kept (Nat.le_trans HB.out O6.out.size) (fun j h1 h2 => Nat.lt_irrefl _ (Nat.lt_of_lt_of_le h1 (Nat.le_trans HB.out h2))))); have hb7 := (hg7.block _ (lt_of_block HB6.out) (own_tbox HQ6.out HB6.out (by decide))).trans HB6.out; have y7 := tbox1 hb7; clear ho7 hw7 hg7 HQ6 HV6 O6 HX6 HB6 hb7)
        | (at_builtin; refine wp_app_oc rfl (.tmp 25) (.tmp 27) 23 rfl Try.underlying23 hi hz0 hz1 hz2 rfl HQ7.out rfl HX7.out O7.out.size HL3.out ?_; intro v8 w8 ho8 hw8; have HQ8 := Lib.hid ho8; have O8 := Lib.hid (O7.out.own hw8 (Nat.le_refl _)); clear ho8 hw8 HQ7 HX7 O7)
        | (go_at_call 9; refine (sp_uvarint _ val.length HVL.out).mono ?_; rintro e6 w6 ⟨v6, rfl, ho6, hw6⟩; have HV6 := Lib.hid ho6.oc; have O6 := Lib.hid (O5.out.trans hw6); have HQ6 := Lib.hid (HQ5.out.keep hw6); have HX6 := Lib.hid (HX5.out.keep (hw6.kept0 (Nat.le_trans HB.out O5.out.size))); have hb6 := (hw6.block _ (lt_of_block HB5.out) id).trans HB5.out; have HB6 := Lib.hid hb6; have y6 := tbox1 hb6; clear ho6 hw6 O5 HQ5 HX5 HB5 hb6)
        | fail)
      go_roundw
      case rel => exact ⟨k + 1, hlt, rfl, by rw [HST.out]; simpa [List.append_assoc] using HQ8.out, O8.out⟩
      case measure => exact msrI u.length k _ _ hlt rfl rfl
    · clear hq hwl
      have hk2 : k = u.length := by omega
      subst hk2
      have hlt' : ¬ ((u.length : Int) < (u.length : Int)) := by omega
      go_wp2_with fail
      go_ret
      have h := HQ.out
      rw [List.take_length] at h
      exact ⟨_, rfl, h, HWL.out⟩

set_option maxRecDepth 100000 in
set_option maxHeartbeats 1000000 in
theorem same_tags (w : World) (B : Nat) (u : List (Nat × List UInt8)) (v v' : Value) (hB : B ≤ w.heap.size) (hU : TgsC w B u v) (hV : TgsC w B u v') (hlen : u.length ≤ 32767) (hval : ∀ x ∈ u, x.2.length ≤ 1000000) :
    Calls Try.prog 13 #[v, v'] w fun e w' => e = .returned (.bool true) ∧ Only (fun _ => False) w w' := by
  have HB := Lib.hid hB
  have HVAL := Lib.hid hval
  obtain ⟨fu, hsu, _⟩ := id hU
  obtain ⟨AU, cU, rfl, hcU⟩ := hsu.sl
  obtain ⟨fv, hsv, _⟩ := id hV
  obtain ⟨AV, cV, rfl, hcV⟩ := hsv.sl
  have HU := Lib.hid hU
  have HV := Lib.hid hV
  clear hB hU hsu hval hV hsv
  go_enter Try.func13, Try.ntmps13
  go_wp2_with fail
  go_loopw [13] (fun i wr => ∃ k : Nat, k ≤ u.length ∧ i = .int .i64 k ∧ Only (fun _ => False) w wr) (fun i _ => u.length - (intOf i).toNat)
  case atStart => exact ⟨0, Nat.zero_le _, rfl, Only.refl _ _⟩
  case round =>
    obtain ⟨k, hk, rfl, honly⟩ := hrel
    have HW := Lib.hid honly
    by_cases hlt : k < u.length
    · obtain ⟨b, o, A1, n1, c1, rfl, _, hbB, hk32, hx1, ck, cx⟩ := (TgsC.keepU HU.out (honly.kept0 HB.out)).at_ hlt
      obtain ⟨b2, o2, A2, n2, c2, rfl, _, hb2B, _, hx2, dk, dx⟩ := (TgsC.keepU HV.out (honly.kept0 HB.out)).at_ hlt
      have hvk := HVAL.out _ (List.getElem_mem hlt)
      have hbw : b < wr.heap.size := by have := HW.out.size; have := HB.out; omega
      have hbw2 : b2 < wr.heap.size := by have := HW.out.size; have := HB.out; omega
      have hlt' : (k : Int) < (u.length : Int) := by omega
      have e9 : wrap64 ((k : Int) + 1) = (k : Int) + 1 := by unfold wrap64; omega
      have cS := Lib.hid (fun (w' : World) (h : Only (fun _ => False) wr w') => sp_same w' B _ _ _ (Nat.le_trans HB.out (Nat.le_trans HW.out.size h.size)) (hx1.keep (h.kept0 (Nat.le_trans HB.out HW.out.size))) (hx2.keep (h.kept0 (Nat.le_trans HB.out HW.out.size))) (by unfold lim2; omega))
      generalize (u[k].1 : Int) = key at ck dk
      have HD := Lib.hid (Only.refl (fun _ => False) wr).drew
      have HKS : Hid (∀ w', Only (fun _ => False) wr w' → w'.cell? ⟨b, o + k * 2, none⟩ = some (.int .u32 key) ∧ w'.cell? ⟨b, o + k * 2 + 1, none⟩ = some (.slice A1 n1 c1) ∧ w'.cell? ⟨b2, o2 + k * 2, none⟩ = some (.int .u32 key) ∧ w'.cell? ⟨b2, o2 + k * 2 + 1, none⟩ = some (.slice A2 n2 c2)) := Lib.hid fun w' h =>
        ⟨(World.cell?_of_block (h.block _ hbw id)).trans ck, (World.cell?_of_block (h.block _ hbw id)).trans cx, (World.cell?_of_block (h.block _ hbw2 id)).trans dk, (World.cell?_of_block (h.block _ hbw2 id)).trans dx⟩
      clear honly hx1 hx2 hvk hk32 ck cx dk dx
      go_wp2_with fail
      go_region_held3 (fun w' => w'.cell? ⟨b, o + k * 2, none⟩ = some (.int .u32 key) ∧ w'.cell? ⟨b, o + k * 2 + 1, none⟩ = some (.slice A1 n1 c1) ∧ w'.cell? ⟨b2, o2 + k * 2, none⟩ = some (.int .u32 key) ∧ w'.cell? ⟨b2, o2 + k * 2 + 1, none⟩ = some (.slice A2 n2 c2)) (first | exact HKS.out _ HD.out | exact HKS.out _ HD5.out) (first
        | (go_at_call 16; refine (cS.out _ HD.out).mono ?_; rintro e5 w5 ⟨rfl, hw5⟩; have HD5 := Lib.hid (HD.out.trans hw5); have HW5 := Lib.hid (HW.out.trans (HD.out.trans hw5)); clear hw5)
        | fail)
      all_goals go_wp2_with fail
      all_goals go_roundw
      case rel => exact ⟨k + 1, hlt, by go_num, HW5.out⟩
      case measure => simp [intOf]; omega
    · clear honly
      have hk2 : k = u.length := by omega
      subst hk2
      have hlt' : ¬ ((u.length : Int) < (u.length : Int)) := by omega
      go_wp2_with fail
      go_ret
      exact ⟨rfl, HW.out⟩
end Go.Proofs.Ythlfepgcjomhpaa.Kf
