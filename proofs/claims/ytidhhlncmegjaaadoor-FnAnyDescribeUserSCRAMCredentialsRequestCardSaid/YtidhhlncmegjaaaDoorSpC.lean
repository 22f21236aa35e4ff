/- The reference's counts and values. -/
import Derived.Test.YtidhhlncmegjaaaDoorSpB
import Derived.Deep.RegionHeld3
import Derived.Laws.CopyOwn
import Derived.Deep.RegionWith
namespace Go.Proofs.YtidhhlncmegjaaaDoor.Kf
set_option linter.unusedVariables false
set_option linter.unusedSimpArgs false
open Go Go.RowKit

theorem Own.oc' {U base : Nat} {w w' : World} {v : Value} {s : List UInt8} (h : Own U base w v s) : Oc w w.heap.size v s := h.oc
/-- What a call hands back is the caller's. -/
theorem SpP.up {U : Nat} {w0 w : World} {s : List UInt8} {e : Ending} {w' : World} (h : SpP U w s e w') (h0 : Only (fun _ => False) w0 w) : SpP U w0 s e w' := by
  obtain ⟨v, he, ho, hw⟩ := h
  exact ⟨v, he, ho.lower h0.size, h0.trans hw⟩
/-- A slice written out, of octets. -/
theorem own_lit (U : Nat) (w : World) (s : List UInt8) (cs : Array Value) (hcs : cs = (s.map u8v).toArray) (n : Nat) (hn : n = s.length) (hl : s.length ≤ 16) : Own U w.heap.size (w.alloc (.cells cs U)) (.slice (some ⟨w.heap.size, 0, none⟩) n n) s := by
  subst hcs hn
  have := World.ownsRow_lit (e := U) (size := 1) (base := w.heap.size) w (s.map u8v).toArray s.length (Nat.le_refl _) (by unfold maxLen; omega) (by simp)
  simpa [Own] using this

set_option maxRecDepth 100000 in
theorem sp_counted (w : World) (flex null : Bool) (n size : Nat) (hn : n < 2147483647) (hs : size ≤ 8) :
    Calls Tryd.prog 146 #[.bool flex, .bool null, .int .i64 n, .int .i64 size] w (SpP 5 w (cntEnc flex size (if null then none else some n))) := by
  cases flex
  · cases null
    · have c := Lib.hid (sp_fixed w n size (by omega) (by omega) hs)
      go_enter Tryd.func146, Tryd.ntmps146
      go_wp2_with (go_at_call 39; refine c.out.mono ?_; rintro e1 w1 ⟨v1, rfl, ho1, hw1⟩; have HO1 := Lib.hid ho1; have HW1 := Lib.hid hw1; clear ho1 hw1)
      go_ret
      exact ⟨_, rfl, HO1.out, HW1.out⟩
    · have c := Lib.hid (sp_fixed w (-1) size (by omega) (by omega) hs)
      go_enter Tryd.func146, Tryd.ntmps146
      go_wp2_with (go_at_call 39; refine c.out.mono ?_; rintro e1 w1 ⟨v1, rfl, ho1, hw1⟩; have HO1 := Lib.hid ho1; have HW1 := Lib.hid hw1; clear ho1 hw1)
      go_ret
      exact ⟨_, rfl, HO1.out, HW1.out⟩
  · cases null
    · have c0 := sp_uvarint w (n + 1) (by omega)
      have e : ((n + 1 : Nat) : Int) = (n : Int) + 1 := by omega
      rw [e] at c0
      have c := Lib.hid c0
      clear c0
      go_enter Tryd.func146, Tryd.ntmps146
      go_wp2_with (go_at_call 100; refine c.out.mono ?_; rintro e1 w1 ⟨v1, rfl, ho1, hw1⟩; have HO1 := Lib.hid ho1; have HW1 := Lib.hid hw1; clear ho1 hw1)
      go_ret
      exact ⟨_, rfl, HO1.out, HW1.out⟩
    · go_enter Tryd.func146, Tryd.ntmps146
      go_wp2
      go_ret
      exact ⟨_, rfl, own_lit _ _ _ _ rfl _ rfl (by simp [cntEnc]), (Only.refl _ _).alloc _⟩

/-- The function 'part' writes these fields. -/
def PartC (flex : Bool) (fs : List Fld) : Prop := ∀ (w : World) (B : Nat) (v : Value) (ver : Int) (t : Tr) (ts : List Value), B ≤ w.heap.size → FldsC w B fs v → TrC w B t ts → (partB fs ver flex t).length + 16 ≤ lim2 →
  Calls Tryd.prog 46 #[v, .int .i64 ver, .bool flex, .agg ts.toArray] w (SpP 5 w (partB fs ver flex t))
/-- What is written of a value of a kind. -/
def valB (kind : Nat) (sub : List Fld) (null : Bool) (ver : Int) (flex : Bool) (t : Tr) : List UInt8 := if kind = 10 then partB sub ver flex t else scalB kind null flex t

theorem and1 (n : Int) : bits .and .i64 n 1 = n % 2 := by
  have e : ((BitVec.ofInt 64 n &&& BitVec.ofInt 64 1).toNat : Int) = n % 2 := by
    rw [BitVec.toNat_and, show (BitVec.ofInt 64 1).toNat = 1 from rfl, Nat.and_one_is_mod, BitVec.toNat_ofInt]
    omega
  show IntKind.i64.wrap ((BitVec.ofInt 64 n &&& BitVec.ofInt 64 1).toNat : Int) = n % 2
  rw [e, IntKind.wrap_i64]
  omega
theorem dec_kind (kind k : Nat) (h : ¬ kind = k) : ((kind : Int) == (k : Int)) = false := by
  have : ¬ (kind : Int) = (k : Int) := by omega
  simpa using this
theorem scalB_num {kind : Nat} (k0 : ¬ kind = 0) (k7 : ¬ kind = 7) (k8 : ¬ kind = 8) (k9 : ¬ kind = 9) (null flex : Bool) (t : Tr) : scalB kind null flex t = beEnc (wid kind) t.n := by
  unfold scalB
  rw [if_neg k0, if_neg k7, if_neg k8, if_neg k9]
  congr 1
  unfold kPrim wid
  split
  case h_1 => exact absurd rfl k0
  case h_7 => exact absurd rfl k7
  all_goals first | rfl | skip
  rename_i n1 n2 n3 n4 n5 n6 n7
  rw [if_neg n2, if_neg (fun h => h.elim n3 n5), if_neg n4]; rfl
theorem info_u8s : (Tryd.prog.info? 5).map (·.size) = some 1 := by kernel_rfl
theorem wid_le (kind : Nat) : wid kind ≤ 8 := by unfold wid; split; decide; split; decide; split <;> decide
/-! ### the kinds -/

set_option maxRecDepth 100000 in
theorem val_bool (w : World) (B : Nat) (AS : Option Addr) (nS cS : Nat) (null : Bool) (ver : Int) (flex : Bool) (tn : Int) (s : List UInt8) (A1 : Option Addr) (c1 : Nat) (nl : Bool) (A2 : Option Addr) (n2 c2 : Nat) (A3 : Option Addr) (n3 c3 : Nat) (h0 : -9223372036854775808 ≤ tn) (h1 : tn < 9223372036854775808)
    (hB : B ≤ w.heap.size) (hs : Oc w B (.slice A1 s.length c1) s) :
    Calls Tryd.prog 147 #[.int .i64 0, .slice AS nS cS, .bool null, .int .i64 ver, .bool flex, .agg #[.int .i64 tn, .slice A1 s.length c1, .bool nl, .slice A2 n2 c2, .slice A3 n3 c3]] w (SpP 5 w [byteOf (tn % 2)]) := by
  have b1 := and1 tn
  have b2 : tn % 2 % 256 = tn % 2 := by omega
  clear hB hs
  go_enter Tryd.func147, Tryd.ntmps147
  go_wp2
  go_ret
  have hO : ∀ o : Obj, Own 5 w.heap.size ((w.alloc o).alloc (.cells #[.int .u8 (tn % 2)] 5)) (.slice (some ⟨w.heap.size + 1, 0, none⟩) 1 1) [byteOf (tn % 2)] := fun o => by
    have := (own_lit 5 (w.alloc o) [byteOf (tn % 2)] #[.int .u8 (tn % 2)] (by simp [u8v_byteOf, b2]) 1 rfl (Nat.le_of_ble_eq_true rfl)).lower (base' := w.heap.size) (by simp)
    simpa using this
  exact ⟨_, rfl, hO _, ((Only.refl _ _).alloc _).alloc _⟩

theorem made16 : madeCells (Value.int .u8 0).cells 16 = (List.replicate 16 (Value.int .u8 0)).toArray := by kernel_rfl
theorem uuid_cells_n (n : Nat) (s : List UInt8) : ((s.take n ++ List.replicate (n - s.length) 0).map u8v) = splice (List.replicate n (Value.int .u8 0)) 0 ((s.take n).map u8v) := by
  unfold splice
  have e : u8v 0 = .int .u8 0 := rfl
  simp [e, List.drop_replicate]
  omega
theorem run_make16 (w : World) : (Instr.makeSlice 22 (.int .i64 16) (.int .i64 16)).run Tryd.prog w = .ok (.slice (some ⟨w.heap.size, 0, none⟩) 16 16) (w.alloc (.cells (List.replicate 16 (Value.int .u8 0)).toArray 5)) := by
  obtain ⟨i0, hi, hz0, hz1, hz2⟩ := info_u8
  have := run_make (P := Tryd.prog) w 22 5 i0 (.int .u8 0) Tryd.underlying22 hi hz0 .i64 .i64 16 16 (by decide) (by decide) (by rw [hz2]; decide) (by decide)
  rw [hz1] at this
  rw [this]
  show Result.ok _ (w.alloc (.cells (madeCells (Value.int .u8 0).cells 16) _)) = _
  rw [made16]; rfl
set_option maxRecDepth 100000 in
theorem val_uuid (w : World) (B : Nat) (AS : Option Addr) (nS cS : Nat) (null : Bool) (ver : Int) (flex : Bool) (tn : Int) (s : List UInt8) (A1 : Option Addr) (c1 : Nat) (nl : Bool) (A2 : Option Addr) (n2 c2 : Nat) (A3 : Option Addr) (n3 c3 : Nat) (h0 : -9223372036854775808 ≤ tn) (h1 : tn < 9223372036854775808)
    (hB : B ≤ w.heap.size) (hs : Oc w B (.slice A1 s.length c1) s) :
    Calls Tryd.prog 147 #[.int .i64 7, .slice AS nS cS, .bool null, .int .i64 ver, .bool flex, .agg #[.int .i64 tn, .slice A1 s.length c1, .bool nl, .slice A2 n2 c2, .slice A3 n3 c3]] w (SpP 5 w (s.take 16 ++ List.replicate (16 - s.length) 0)) := by
  have HB := Lib.hid hB
  have HS := Lib.hid hs
  have hmk := run_make16
  clear hB hs h0 h1
  go_enter Tryd.func147, Tryd.ntmps147
  go_wp2_with (first
    | (refine wpList_copy_splice rfl _ _ _ _ rfl 5 Tryd.underlying22 info_u8s _ _ _ _ _ _ rfl rfl (w.heap.size + 1) 0 (List.replicate 16 (.int .u8 0)) 5 ?_ ((s.take 16).map u8v) ?_ ?_ ?_ ?_ w.heap.size w ?_ (Nat.le_succ _) ?_; rotate_left; rotate_left; rotate_left; rotate_left; rotate_left; rotate_left; intro w3 hw3 hb3; have HB3 := Lib.hid hb3; clear hb3)
    | fail)
  · go_ret
    refine ⟨.slice (some ⟨w.heap.size + 1, 0, none⟩) 16 16, rfl, ?_, HB3.out.os, HB3.out.tape, HB3.out.output, HB3.out.size, fun k hk _ => HB3.out.block k hk⟩
    have hl : (s.take 16 ++ List.replicate (16 - s.length) 0).length = 16 := by simp; omega
    have hw := hw3.out
    rw [← uuid_cells_n] at hw
    refine ⟨by rw [List.length_map, Nat.mul_one], .inr ⟨w.heap.size + 1, 16, _, by rw [hl], by omega, hw, by rw [hl]; exact Nat.le_refl _, by unfold maxLen; decide, by simp; omega, ?_⟩⟩
    rw [hl]
    exact List.take_of_length_le (by simp; omega)
  · exact heap_alloc2_new _ _ _
  · show ((s.take 16).map u8v).length = Nat.min s.length 16
    rw [List.length_map, List.length_take]
    exact Nat.min_comm _ _
  · intro hp
    first | refine ⟨rfl, ?_⟩ | skip
    have hp' : s ≠ [] := by intro e; subst e; simp at hp
    rcases HS.out with ⟨_, h0⟩ | ⟨a, c, hv, hc, hcell⟩
    · exact absurd h0 hp'
    · simp only [Value.slice.injEq] at hv
      obtain ⟨rfl, _, _⟩ := hv
      refine ⟨a, rfl, fun j v hj => ?_⟩
      simp only [List.getElem?_map, List.getElem?_take] at hj
      split at hj
      · cases hb : s[j]? with
        | none => rw [hb] at hj; cases hj
        | some b =>
          rw [hb] at hj
          simp at hj
          subst hj
          have hk := hcell j b hb
          exact (World.cell?_alloc_lt _ _ _ (by rw [add_block]; have := HB.out; simp; omega)).trans ((World.cell?_alloc_lt _ _ _ (by rw [add_block]; have := HB.out; omega)).trans hk.2)
      · cases hj
  · simp; omega
  · intro v hv
    simp only [List.mem_map] at hv
    obtain ⟨b, _, rfl⟩ := hv
    rfl
  · exact ((Below.refl _ _).alloc (Nat.le_refl _) _).alloc (by simp) _

set_option maxRecDepth 100000 in
theorem val_text (w : World) (B : Nat) (AS : Option Addr) (nS cS : Nat) (null : Bool) (ver : Int) (flex : Bool) (tn : Int) (s : List UInt8) (A1 : Option Addr) (c1 : Nat) (nl : Bool) (A2 : Option Addr) (n2 c2 : Nat) (A3 : Option Addr) (n3 c3 : Nat) (h0 : -9223372036854775808 ≤ tn) (h1 : tn < 9223372036854775808)
    (hB : B ≤ w.heap.size) (hs : Oc w B (.slice A1 s.length c1) s) (hl : (cntEnc flex 2 (if null then none else some (s.take most).length) ++ (if null then [] else s.take most)).length + 16 ≤ lim2) :
    Calls Tryd.prog 147 #[.int .i64 8, .slice AS nS cS, .bool null, .int .i64 ver, .bool flex, .agg #[.int .i64 tn, .slice A1 s.length c1, .bool nl, .slice A2 n2 c2, .slice A3 n3 c3]] w (SpP 5 w (cntEnc flex 2 (if null then none else some (s.take most).length) ++ (if null then [] else s.take most))) := by
  obtain ⟨i0, hi, hz0, hz1, hz2⟩ := info_u8
  have HL := Lib.hid hl
  have HB := Lib.hid hB
  have HSs := Lib.hid hs
  clear hB hs h0 h1 hl
  have hm : (s.take most).length ≤ 32767 := by rw [List.length_take]; exact Nat.min_le_left _ _
  obtain ⟨s', hs'⟩ : ∃ s', s.take most = s' := ⟨_, rfl⟩
  rw [hs'] at HL hm ⊢
  have HS' := Lib.hid hs'
  clear hs'
  cases null
  · go_enter Tryd.func147, Tryd.ntmps147
    go_wp2_with (first
      | (go_at_call 102; refine (sp_whole _ B _ s ?_).mono ?_; (exact HSs.out.keep (((Only.refl _ _).alloc _ : Only (fun _ => False) _ _).kept0 HB.out)); rintro e1 w1 ⟨v1, rfl, hv1, hw1⟩; have O1 := Lib.hid (show Only (fun _ => False) w w1 by rw [hw1]; exact (Only.refl _ _).alloc _); rw [← hw1, HS'.out] at hv1; clear hw1; obtain ⟨Av, cv, rfl, _⟩ := hv1.sl; have HV0 := Lib.hid hv1; clear hv1)
      | (go_at_call 146; refine (sp_counted _ flex false s'.length 2 ?_ (by decide)).mono ?_; (omega); rintro e2 w2 ⟨v2, rfl, ho2, hw2⟩; have O2 := Lib.hid (O1.out.trans hw2); have HO2 := Lib.hid (ho2.lower O1.out.size); have HV := Lib.hid (HV0.out.keep (hw2.kept0 (Nat.le_trans HB.out O1.out.size))); clear ho2 hw2)
      | (at_builtin; refine wp_app_oc rfl _ _ 22 rfl Tryd.underlying22 hi hz0 hz1 hz2 rfl HO2.out (s := s') rfl (HV.out) O2.out.size ?_ ?_; rotate_left; intro v3 w3 ho3 hw3; have O3 := Lib.hid (O2.out.own hw3 (Nat.le_refl _)); have HO3 := Lib.hid ho3; clear ho3 hw3))
    · go_ret
      exact ⟨_, rfl, HO3.out, O3.out⟩
    · have := HL.out
      simp only [List.length_append] at this ⊢
      first | omega | (simp at this ⊢; omega)
  · go_enter Tryd.func147, Tryd.ntmps147
    go_wp2_with (first
      | (go_at_call 102; refine (sp_whole _ B _ s ?_).mono ?_; (exact HSs.out.keep (((Only.refl _ _).alloc _ : Only (fun _ => False) _ _).kept0 HB.out)); rintro e1 w1 ⟨v1, rfl, hv1, hw1⟩; have O1 := Lib.hid (show Only (fun _ => False) w w1 by rw [hw1]; exact (Only.refl _ _).alloc _); rw [← hw1, HS'.out] at hv1; clear hw1; obtain ⟨Av, cv, rfl, _⟩ := hv1.sl; have HV0 := Lib.hid hv1; clear hv1)
      | (go_at_call 146; refine (sp_counted _ flex true 0 2 ?_ (by decide)).mono ?_; (omega); rintro e2 w2 ⟨v2, rfl, ho2, hw2⟩; have O2 := Lib.hid (O1.out.trans hw2); have HO2 := Lib.hid (ho2.lower O1.out.size); have HV := Lib.hid (HV0.out.keep (hw2.kept0 (Nat.le_trans HB.out O1.out.size))); clear ho2 hw2)
      | (at_builtin; refine wp_app_oc rfl _ _ 22 rfl Tryd.underlying22 hi hz0 hz1 hz2 rfl HO2.out (s := []) rfl (Oc.nil w2 0) O2.out.size ?_ ?_; rotate_left; intro v3 w3 ho3 hw3; have O3 := Lib.hid (O2.out.own hw3 (Nat.le_refl _)); have HO3 := Lib.hid ho3; clear ho3 hw3))
    · go_ret
      exact ⟨_, rfl, HO3.out, O3.out⟩
    · have := HL.out
      simp only [List.length_append] at this ⊢
      first | omega | (simp at this ⊢; omega)

set_option maxRecDepth 100000 in
theorem val_octets (w : World) (B : Nat) (AS : Option Addr) (nS cS : Nat) (null : Bool) (ver : Int) (flex : Bool) (tn : Int) (s : List UInt8) (A1 : Option Addr) (c1 : Nat) (nl : Bool) (A2 : Option Addr) (n2 c2 : Nat) (A3 : Option Addr) (n3 c3 : Nat) (h0 : -9223372036854775808 ≤ tn) (h1 : tn < 9223372036854775808)
    (hB : B ≤ w.heap.size) (hs : Oc w B (.slice A1 s.length c1) s) (hl : (cntEnc flex 4 (if null then none else some (s.take most).length) ++ (if null then [] else s.take most)).length + 16 ≤ lim2) :
    Calls Tryd.prog 147 #[.int .i64 9, .slice AS nS cS, .bool null, .int .i64 ver, .bool flex, .agg #[.int .i64 tn, .slice A1 s.length c1, .bool nl, .slice A2 n2 c2, .slice A3 n3 c3]] w (SpP 5 w (cntEnc flex 4 (if null then none else some (s.take most).length) ++ (if null then [] else s.take most))) := by
  obtain ⟨i0, hi, hz0, hz1, hz2⟩ := info_u8
  have HL := Lib.hid hl
  have HB := Lib.hid hB
  have HSs := Lib.hid hs
  clear hB hs h0 h1 hl
  have hm : (s.take most).length ≤ 32767 := by rw [List.length_take]; exact Nat.min_le_left _ _
  obtain ⟨s', hs'⟩ : ∃ s', s.take most = s' := ⟨_, rfl⟩
  rw [hs'] at HL hm ⊢
  have HS' := Lib.hid hs'
  clear hs'
  cases null
  · go_enter Tryd.func147, Tryd.ntmps147
    go_wp2_with (first
      | (go_at_call 102; refine (sp_whole _ B _ s ?_).mono ?_; (exact HSs.out.keep (((Only.refl _ _).alloc _ : Only (fun _ => False) _ _).kept0 HB.out)); rintro e1 w1 ⟨v1, rfl, hv1, hw1⟩; have O1 := Lib.hid (show Only (fun _ => False) w w1 by rw [hw1]; exact (Only.refl _ _).alloc _); rw [← hw1, HS'.out] at hv1; clear hw1; obtain ⟨Av, cv, rfl, _⟩ := hv1.sl; have HV0 := Lib.hid hv1; clear hv1)
      | (go_at_call 146; refine (sp_counted _ flex false s'.length 4 ?_ (by decide)).mono ?_; (omega); rintro e2 w2 ⟨v2, rfl, ho2, hw2⟩; have O2 := Lib.hid (O1.out.trans hw2); have HO2 := Lib.hid (ho2.lower O1.out.size); have HV := Lib.hid (HV0.out.keep (hw2.kept0 (Nat.le_trans HB.out O1.out.size))); clear ho2 hw2)
      | (at_builtin; refine wp_app_oc rfl _ _ 22 rfl Tryd.underlying22 hi hz0 hz1 hz2 rfl HO2.out (s := s') rfl (HV.out) O2.out.size ?_ ?_; rotate_left; intro v3 w3 ho3 hw3; have O3 := Lib.hid (O2.out.own hw3 (Nat.le_refl _)); have HO3 := Lib.hid ho3; clear ho3 hw3))
    · go_ret
      exact ⟨_, rfl, HO3.out, O3.out⟩
    · have := HL.out
      simp only [List.length_append] at this ⊢
      first | omega | (simp at this ⊢; omega)
  · go_enter Tryd.func147, Tryd.ntmps147
    go_wp2_with (first
      | (go_at_call 102; refine (sp_whole _ B _ s ?_).mono ?_; (exact HSs.out.keep (((Only.refl _ _).alloc _ : Only (fun _ => False) _ _).kept0 HB.out)); rintro e1 w1 ⟨v1, rfl, hv1, hw1⟩; have O1 := Lib.hid (show Only (fun _ => False) w w1 by rw [hw1]; exact (Only.refl _ _).alloc _); rw [← hw1, HS'.out] at hv1; clear hw1; obtain ⟨Av, cv, rfl, _⟩ := hv1.sl; have HV0 := Lib.hid hv1; clear hv1)
      | (go_at_call 146; refine (sp_counted _ flex true 0 4 ?_ (by decide)).mono ?_; (omega); rintro e2 w2 ⟨v2, rfl, ho2, hw2⟩; have O2 := Lib.hid (O1.out.trans hw2); have HO2 := Lib.hid (ho2.lower O1.out.size); have HV := Lib.hid (HV0.out.keep (hw2.kept0 (Nat.le_trans HB.out O1.out.size))); clear ho2 hw2)
      | (at_builtin; refine wp_app_oc rfl _ _ 22 rfl Tryd.underlying22 hi hz0 hz1 hz2 rfl HO2.out (s := []) rfl (Oc.nil w2 0) O2.out.size ?_ ?_; rotate_left; intro v3 w3 ho3 hw3; have O3 := Lib.hid (O2.out.own hw3 (Nat.le_refl _)); have HO3 := Lib.hid ho3; clear ho3 hw3))
    · go_ret
      exact ⟨_, rfl, HO3.out, O3.out⟩
    · have := HL.out
      simp only [List.length_append] at this ⊢
      first | omega | (simp at this ⊢; omega)

set_option maxRecDepth 100000 in
theorem val_num (w : World) (B : Nat) (kind : Nat) (AS : Option Addr) (nS cS : Nat) (null : Bool) (ver : Int) (flex : Bool) (tn : Int) (s : List UInt8) (A1 : Option Addr) (c1 : Nat) (nl : Bool) (A2 : Option Addr) (n2 c2 : Nat) (A3 : Option Addr) (n3 c3 : Nat) (h0 : -9223372036854775808 ≤ tn) (h1 : tn < 9223372036854775808)
    (hB : B ≤ w.heap.size) (hs : Oc w B (.slice A1 s.length c1) s) (k0 : ¬ kind = 0) (k7 : ¬ kind = 7) (k8 : ¬ kind = 8) (k9 : ¬ kind = 9) (k10 : ¬ kind = 10) :
    Calls Tryd.prog 147 #[.int .i64 kind, .slice AS nS cS, .bool null, .int .i64 ver, .bool flex, .agg #[.int .i64 tn, .slice A1 s.length c1, .bool nl, .slice A2 n2 c2, .slice A3 n3 c3]] w (SpP 5 w (beEnc (wid kind) tn)) := by
  have z0 := dec_kind kind 0 k0
  have z7 := dec_kind kind 7 k7
  have z8 := dec_kind kind 8 k8
  have z9 := dec_kind kind 9 k9
  have z10 := dec_kind kind 10 k10
  have cW := Lib.hid (fun w' => sp_width w' kind)
  have cF := Lib.hid (fun w' => sp_fixed w' tn (wid kind) h0 h1 (wid_le kind))
  clear h0 h1 k0 k7 k8 k9 k10 hB hs
  go_enter Tryd.func147, Tryd.ntmps147
  go_wp2_with fail
  go_region_with (first
    | (go_at_call 148; refine (cW.out _).mono ?_; rintro e1 w1 ⟨rfl, rfl⟩)
    | (go_at_call 39; refine (cF.out _).mono ?_; rintro e2 w2 h2; have H2 := Lib.hid (h2.up (((Only.refl _ _).alloc _).drew : Only (fun _ => False) w _)); clear h2; obtain ⟨v2, rfl, h2⟩ := H2.out; clear h2))
  all_goals go_wp2
  all_goals go_ret
  all_goals exact H2.out

set_option maxRecDepth 100000 in
theorem val_part (w : World) (B : Nat) (sub : List Fld) (AS : Option Addr) (nS cS : Nat) (null : Bool) (ver : Int) (flex : Bool) (t : Tr) (ts : List Value) (hB : B ≤ w.heap.size) (hS : FldsC w B sub (.slice AS nS cS)) (ht : TrC w B t ts)
    (hp : PartC flex sub) (hl : (partB sub ver flex t).length + 16 ≤ lim2) :
    Calls Tryd.prog 147 #[.int .i64 10, .slice AS nS cS, .bool null, .int .i64 ver, .bool flex, .agg ts.toArray] w (SpP 5 w (partB sub ver flex t)) := by
  have HB := Lib.hid hB
  have HS := Lib.hid hS
  have HT := Lib.hid ht
  have HL := Lib.hid hl
  have HP := Lib.hid hp
  obtain ⟨tn, A1, n1, c1, tb, A2, n2, c2, A3, n3, c3, rfl⟩ := ht.form
  clear hB hS hl ht hp
  go_enter Tryd.func147, Tryd.ntmps147
  go_wp2_with (go_at_call 46; refine (HP.out _ B _ ver t _ ?_ ?_ ?_ HL.out).mono ?_; (exact Nat.le_trans HB.out (by simp)); (exact HS.out.keep (((Only.refl _ _).alloc _ : Only (fun _ => False) _ _).kept0 HB.out)); (exact HT.out.keep (((Only.refl _ _).alloc _ : Only (fun _ => False) _ _).kept0 HB.out)); rintro e1 w1 h1; have H1 := Lib.hid (h1.up ((Only.refl _ _).alloc _ : Only (fun _ => False) w _)); clear h1; obtain ⟨v1, rfl, h1⟩ := H1.out; clear h1)
  go_ret
  exact H1.out

theorem sp_value (w : World) (B : Nat) (kind : Nat) (sub : List Fld) (sv : Value) (null : Bool) (ver : Int) (flex : Bool) (t : Tr) (ts : List Value) (hB : B ≤ w.heap.size) (hS : FldsC w B sub sv) (ht : TrC w B t ts)
    (hp : kind = 10 → PartC flex sub) (hl : (valB kind sub null ver flex t).length + 16 ≤ lim2) :
    Calls Tryd.prog 147 #[.int .i64 kind, sv, .bool null, .int .i64 ver, .bool flex, .agg ts.toArray] w (SpP 5 w (valB kind sub null ver flex t)) := by
  obtain ⟨fS, hsl, _⟩ := id hS
  obtain ⟨AS, cS, rfl, _⟩ := hsl.sl
  by_cases k10 : kind = 10
  · subst k10
    exact val_part w B sub AS _ cS null ver flex t ts hB hS ht (hp rfl) hl
  have hV : valB kind sub null ver flex t = scalB kind null flex t := if_neg k10
  rw [hV] at hl ⊢
  cases ht with
  | @mk tn s nl l u vs vl vu fl fu h0 h1 hs hL' hL hu hU =>
  obtain ⟨A1, c1, rfl, hc1⟩ := hs.sl
  obtain ⟨A2, c2, rfl, _⟩ := hL'.sl
  obtain ⟨A3, c3, rfl, _⟩ := hu.sl
  by_cases k0 : kind = 0
  · subst k0
    have e : scalB 0 null flex (Tr.mk tn s nl l u) = [byteOf (tn % 2)] := by simp [scalB, beEnc, Tr.n]
    rw [e]
    exact val_bool w B AS _ cS null ver flex tn s A1 c1 nl A2 _ c2 A3 _ c3 h0 h1 hB hs
  by_cases k7 : kind = 7
  · subst k7
    exact val_uuid w B AS _ cS null ver flex tn s A1 c1 nl A2 _ c2 A3 _ c3 h0 h1 hB hs
  by_cases k8 : kind = 8
  · subst k8
    exact val_text w B AS _ cS null ver flex tn s A1 c1 nl A2 _ c2 A3 _ c3 h0 h1 hB hs hl
  by_cases k9 : kind = 9
  · subst k9
    exact val_octets w B AS _ cS null ver flex tn s A1 c1 nl A2 _ c2 A3 _ c3 h0 h1 hB hs hl
  rw [scalB_num k0 k7 k8 k9]
  exact val_num w B kind AS _ cS null ver flex tn s A1 c1 nl A2 _ c2 A3 _ c3 h0 h1 hB hs k0 k7 k8 k9 k10
end Go.Proofs.YtidhhlncmegjaaaDoor.Kf
