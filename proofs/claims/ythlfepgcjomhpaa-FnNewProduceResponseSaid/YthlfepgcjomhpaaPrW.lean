/- A new ProduceResponse is written. -/
import Derived.Test.YthlfepgcjomhpaaNewB
import Derived.Test.YthlfepgcjomhpaaMsgV
import Derived.Test.YthlfepgcjomhpaaDfA
import Derived.Test.YthlfepgcjomhpaaKbT
import Derived.Test.YthlfepgcjomhpaaTagG
import Derived.Handy
import Derived.WalkMore
import Derived.LoopTactic
namespace Go.Proofs.Ythlfepgcjomhpaa.Kf.MProduceResponse
set_option linter.unusedVariables false
set_option linter.unusedSimpArgs false
set_option maxRecDepth 100000
open Go Go.RowKit

def outP (ver : Int) : List UInt8 := cntEnc (decide (9 ≤ ver)) 4 (some 0) ++ (if 1 ≤ ver then beEnc 4 0 else []) ++ (if 9 ≤ ver then uvEnc 0 else [])
theorem outP_len (ver : Int) : (outP ver).length ≤ 20 := by
  unfold outP
  by_cases h9 : 9 ≤ ver <;> by_cases h1 : 1 ≤ ver <;> simp [h9, h1] <;> decide

theorem atNew {w w' : World} (h : Only (fun j => w.heap.size ≤ j) w w') : Only (fun _ => False) w w' := ⟨h.os, h.tape, h.output, h.size, fun k hk _ => h.block k hk (by omega)⟩
set_option maxHeartbeats 4000000 in
theorem appP (w : World) (b : Nat) (ver : Int) (hz : ∀ (j : Nat) v, ([.int .i16 ver, .slice none 0 0, .int .i32 0, .slice none 0 0, .map none] : List Value)[j]? = some v → w.cell? ⟨b, j, none⟩ = some v) (hb : b < w.heap.size) :
    Calls Try.prog 31 #[.pointer (some ⟨b, 0, none⟩), .slice none 0 0] w fun e w' => ∃ v, e = .returned v ∧ Own 5 w.heap.size w' v (outP ver) ∧ Only (fun _ => False) w w' := by
  have z0 := hz 0 _ rfl
  have z1 := hz 1 _ rfl
  have HZ := Lib.hid hz
  clear hz
  have z2 := HZ.out 2 _ rfl
  have z3 := HZ.out 3 _ rfl
  have CI := Lib.hid (fun (w1 : World) (v : Value) (ds : List UInt8) (h : w.heap.size ≤ w1.heap.size) (hl : ds.length ≤ 20) (ho : Own 5 w.heap.size w1 v ds) => app_i32.2 w.heap.size w1 v ds 0 ho (by decide) (by decide) h (by unfold lim2; omega))
  have HB := Lib.hid hb
  clear hb
  have HK : Hid (∀ w1, Only (fun j => w.heap.size ≤ j) w w1 → ∀ (j : Nat) v, ([.int .i16 ver, .slice none 0 0, .int .i32 0, .slice none 0 0, .map none] : List Value)[j]? = some v → w1.cell? ⟨b, j, none⟩ = some v) :=
    Lib.hid fun w1 h j v hj => (World.cell?_of_block (w := w) (h.block b HB.out (by have := HB.out; omega))).trans (HZ.out j v hj)
  have CT := Lib.hid (fun (w1 : World) (ho : Only (fun j => w.heap.size ≤ j) w w1) => tags_len.2 b w1 b 4 0 0 [.map none] [] (fun j v hj => by
    match j, hj with
    | 0, hj => exact HK.out w1 ho 4 v hj) ⟨[], rfl, .inl ⟨rfl, rfl⟩⟩)
  have CU := Lib.hid (fun (w1 : World) (v : Value) (ds : List UInt8) (h : w.heap.size ≤ w1.heap.size) (hl : ds.length ≤ 20) (ho : Own 5 w.heap.size w1 v ds) => app_uvarint.2 w.heap.size w1 v ds 0 ho (by decide) h (by unfold lim2; omega))
  have CE := Lib.hid (fun (w1 : World) (v : Value) (ds : List UInt8) (hon : Only (fun j => w.heap.size ≤ j) w w1) (hl : ds.length ≤ 20) (ho : Own 5 w.heap.size w1 v ds) => tags_each.2 b w.heap.size w1 v ds b 4 0 0 [.map none] [] ho (fun j v hj => by
    match j, hj with
    | 0, hj => exact HK.out w1 hon 4 v hj) ⟨[], rfl, .inl ⟨rfl, rfl⟩⟩ trivial (by decide) HB.out (Nat.zero_le _) (fun h => by cases h) HB.out hon.size (by unfold lim2; show _ + (encTags []).length + 16 ≤ _; have : (encTags []).length = 0 := rfl; omega))
  unfold outP
  by_cases h9 : 9 ≤ ver
  · have h1 : 1 ≤ ver := by omega
    have hd9 : decide (9 ≤ ver) = true := by simpa using h9
    rw [hd9, if_pos h9, if_pos h1]
    have C1 := Lib.hid (show Calls Try.prog 38 #[.slice none 0 0, .int .i64 0] w fun e w' => ∃ v, e = .returned v ∧ Own 5 w.heap.size w' v (cntEnc true 4 (some 0)) ∧ Only (fun j => w.heap.size ≤ j) w w' from (len_compact.2 w.heap.size w (.slice none 0 0) [] 0 false (World.ownsRow_nil _ _ _ _) (by decide) (by simp) (Nat.le_refl _) (by unfold lim2; decide)).mono fun e w' ⟨v, h, ho, k⟩ => ⟨v, h, by simpa using ho, k⟩)
    have hl0 : (cntEnc true 4 (some 0)).length ≤ 5 := by decide
    generalize cntEnc true 4 (some 0) = c0 at *
    go_enter Try.func31, Try.ntmps31
    go_wp2_with (first
      | (go_at_call 38; refine C1.out.mono ?_; rintro e1 w1 ⟨v1, rfl, ho, hh1⟩; have HO1 := Lib.hid ho; have O1 := Lib.hid hh1; have y2 := HK.out w1 hh1 2 _ rfl; have y3 := HK.out w1 hh1 3 _ rfl; clear ho hh1 C1)
      | fail)
    refine wp_loop_once ?_
    go_wp2_with (first
      | (go_at_call 43; refine (CI.out _ _ _ O1.out.size (Nat.le_trans hl0 (by decide)) HO1.out).mono ?_; rintro e2 w2 ⟨v2, rfl, ho, hh2⟩; have HO2 := Lib.hid ho; have O2 := Lib.hid (O1.out.trans hh2); have x3 := HK.out w2 O2.out 3 _ rfl; clear ho hh2 CI)
      | (go_at_call 49; refine (CT.out _ O2.out).mono ?_; rintro e3 w3 ⟨v3, rfl, rfl, hh3⟩; have O3 := Lib.hid (O2.out.trans (hh3.ge _)); have HO3 := Lib.hid (HO2.out.keep hh3); clear hh3 CT)
      | (go_at_call 48; refine (CU.out _ _ _ O3.out.size ?_ HO3.out).mono ?_; rotate_left; rintro e4 w4 ⟨v4, rfl, ho, hh4⟩; have HO4 := Lib.hid ho; have O4 := Lib.hid (O3.out.trans hh4); clear ho hh4 CU)
      | fail)
    · refine wp_loop_once ?_
      go_wp2_with (first
        | (go_at_call 50; refine (CE.out _ _ _ O4.out ?_ HO4.out).mono ?_; rotate_left; rintro e5 w5 ⟨v5, rfl, ho, hh5⟩; have HO5 := Lib.hid ho; have O5 := Lib.hid (O4.out.trans hh5); clear ho hh5 CE)
        | fail)
      · go_ret
        refine ⟨v5, rfl, ?_, atNew O5.out⟩
        have := HO5.out
        rw [show encTags [] = [] from rfl, List.append_nil] at this
        exact this
      · rw [List.length_append, List.length_append, beEnc_length]
        have : (uvEnc 0).length = 1 := by decide
        omega
    · rw [List.length_append, beEnc_length]; omega
  · have hd9 : decide (9 ≤ ver) = false := by simpa using h9
    rw [hd9, if_neg h9]
    have C1 := Lib.hid (show Calls Try.prog 39 #[.slice none 0 0, .int .i64 0] w fun e w' => ∃ v, e = .returned v ∧ Own 5 w.heap.size w' v (cntEnc false 4 (some 0)) ∧ Only (fun j => w.heap.size ≤ j) w w' from (len_plain.2 w.heap.size w (.slice none 0 0) [] 0 false (World.ownsRow_nil _ _ _ _) (by decide) (by simp) (Nat.le_refl _) (by unfold lim2; decide)).mono fun e w' ⟨v, h, ho, k⟩ => ⟨v, h, by simpa using ho, k⟩)
    have hl0 : (cntEnc false 4 (some 0)).length ≤ 5 := by decide
    by_cases h1 : 1 ≤ ver
    · rw [if_pos h1]
      generalize cntEnc false 4 (some 0) = c0 at *
      go_enter Try.func31, Try.ntmps31
      go_wp2_with (first
        | (go_at_call 39; refine C1.out.mono ?_; rintro e1 w1 ⟨v1, rfl, ho, hh1⟩; have HO1 := Lib.hid ho; have O1 := Lib.hid hh1; have y2 := HK.out w1 hh1 2 _ rfl; have y3 := HK.out w1 hh1 3 _ rfl; clear ho hh1 C1)
        | fail)
      refine wp_loop_once ?_
      go_wp2_with (first
        | (go_at_call 43; refine (CI.out _ _ _ O1.out.size (Nat.le_trans hl0 (by decide)) HO1.out).mono ?_; rintro e2 w2 ⟨v2, rfl, ho, hh2⟩; have HO2 := Lib.hid ho; have O2 := Lib.hid (O1.out.trans hh2); clear ho hh2 CI)
        | fail)
      go_ret
      exact ⟨v2, rfl, by rw [List.append_nil]; exact HO2.out, atNew O2.out⟩
    · rw [if_neg h1]
      generalize cntEnc false 4 (some 0) = c0 at *
      go_enter Try.func31, Try.ntmps31
      go_wp2_with (first
        | (go_at_call 39; refine C1.out.mono ?_; rintro e1 w1 ⟨v1, rfl, ho, hh1⟩; have HO1 := Lib.hid ho; have O1 := Lib.hid hh1; have y2 := HK.out w1 hh1 2 _ rfl; have y3 := HK.out w1 hh1 3 _ rfl; clear ho hh1 C1)
        | fail)
      refine wp_loop_once ?_
      go_wp2_with fail
      go_ret
      exact ⟨v1, rfl, by rw [List.append_nil, List.append_nil]; exact HO1.out, atNew O1.out⟩

theorem plain_of {F : Nat} {fn : Func} (hf : Try.prog.funcs[F]? = some fn) (hb : fn.body.isNone = false) (hn : (fn.name == "runtime.NumGoroutine") = false) : Plain Try.prog F := ⟨fn, hf, hb, hn⟩
noncomputable def bP : Code := (Try.f26.body).getD .skip
noncomputable def bS : Code := (Try.f30.body).getD .skip
noncomputable def bV : Code := (Try.f27.body).getD .skip
noncomputable def bX : Code := (Try.f14.body).getD .skip
noncomputable def bN : Code := (Try.f17.body).getD .skip
theorem codeP : Try.f26.body = some (gNP 36 86 69 bP) := by kernel_rfl
theorem codeS : Try.f30.body = some (gSV 86 68 bS) := by kernel_rfl
theorem codeV : Try.f27.body = some (gK (.int .i16 0) (.int .i16 13) bV) := by kernel_rfl
theorem codeX : Try.f14.body = some (gMx 26 27 69 68 3 bX) := by kernel_rfl
theorem codeN : Try.f17.body = some (gNewM 26 30 31 69 23 3 68 bN) := by kernel_rfl
abbrev z0 : Array Value := #[.int .i16 0, .slice none 0 0, .int .i32 0, .slice none 0 0, .map none]
theorem alc : Alc Try.prog 86 z0 := fun o a w h => by
  obtain ⟨d, op, t, p, af, g⟩ := o
  simp only at h
  subst h
  kernel_rfl
theorem defv : DefV Try.prog 36 86 z0 z0 := defV_skip Try.func36 rfl rfl rfl
theorem new_calls (w : World) : Calls Try.prog 26 #[] w (NewVP z0 86 w) :=
  NPV_calls Try.func26 bP codeP Try.results26 Try.ntmps26 alc defv
theorem f0 : FieldAt Try.prog 86 0 0 68 1 := fieldAt_of Try.underlying86 rfl rfl rfl sz_u16 (by decide)
theorem set_calls (w : World) (b : Nat) (n : Int) (hb : Blk w b 5) : Calls Try.prog 30 #[.pointer (some ⟨b, 0, none⟩), .int .i16 n] w fun e w' => e = .returned (.tuple #[]) ∧ Only (· = b) w w' ∧ Upd b 0 1 w w' ∧ w'.cell? ⟨b, 0, none⟩ = some (.int .i16 n) :=
  SV_calls Try.func30 bS codeS Try.results30 Try.ntmps30 f0 hb (by decide)
theorem max_calls (w : World) : Calls Try.prog 14 #[] w fun e w' => e = .returned (.int .i64 13) ∧ Only (fun _ => False) w w' :=
  Mx_calls Try.func14 bX codeX Try.results14 Try.ntmps14 und_int Try.underlying68 (plain_of Try.func26 rfl rfl) (plain_of Try.func27 rfl rfl) ((new_calls w).mono fun e w' h => ⟨_, h.1, h.2.1⟩) fun v w' => K_calls Try.func27 bV codeV Try.results27 Try.ntmps27
theorem new_msg {w : World} {ver : Int} (hr : IntKind.i16.wrap ver = ver) : Calls Try.prog 17 #[.int .i64 ver] w (SpP 5 w (outP ver)) :=
  NewD_calls Try.func17 bN codeN Try.results17 Try.ntmps17 (plain_of Try.func26 rfl rfl) (plain_of Try.func30 rfl rfl) (plain_of Try.func31 rfl rfl) und_int Try.underlying68 rfl (by decide) new_calls set_calls
    hr (fun w b hz hb => appP w b ver hz hb)
end Go.Proofs.Ythlfepgcjomhpaa.Kf.MProduceResponse
