/- What the reference writes of a field. -/
import Derived.Test.YtidhhlncmegjaaaDoorSpC
import Derived.Deep.RegionHeld3
namespace Go.Proofs.YtidhhlncmegjaaaDoor.Kf
set_option linter.unusedVariables false
set_option linter.unusedSimpArgs false
open Go Go.RowKit

/-- The cells of a box that the call made, later. -/
theorem boxA {w w1 : World} {A C : Array Value} {e f : Nat} (h : Only (fun _ => False) ((w.alloc (.cells A e)).alloc (.cells C f)) w1) (i : Nat) {v : Value} (hv : A[i]? = some v) : w1.cell? ⟨w.heap.size, i, none⟩ = some v := by
  have hb : w1.heap[w.heap.size]? = some (.cells A e) := by
    rw [h.block _ (by simp; omega) id, heap_alloc_old (h := by simp), heap_alloc_new]
  simp [World.cell?, hb, hv]
theorem boxC {w w1 : World} {A C : Array Value} {e f : Nat} (h : Only (fun _ => False) ((w.alloc (.cells A e)).alloc (.cells C f)) w1) (i : Nat) {v : Value} (hv : C[i]? = some v) : w1.cell? ⟨w.heap.size + 1, i, none⟩ = some v := by
  have hb : w1.heap[w.heap.size + 1]? = some (.cells C f) := by
    rw [h.block _ (by simp) id, heap_alloc2_new]
  simp [World.cell?, hb, hv]
theorem Only.first2 {w w1 : World} {a b : Obj} (h : Only (fun _ => False) ((w.alloc a).alloc b) w1) : Only (fun _ => False) w w1 := ((((Only.refl _ _).alloc _).alloc _ : Only (fun _ => False) w _)).trans h

theorem flat_take {α : Type} (f : α → List UInt8) (l : List α) (k : Nat) (h : k < l.length) : ((l.take (k + 1)).map f).flatten = ((l.take k).map f).flatten ++ f l[k] := by
  rw [List.take_succ_eq_append_getElem h, List.map_append, List.flatten_append]
  simp
theorem flat_le {α : Type} (f : α → List UInt8) (l : List α) (k : Nat) : ((l.take k).map f).flatten.length ≤ ((l.map f).flatten).length := by
  have : (l.map f).flatten = ((l.take k).map f).flatten ++ ((l.drop k).map f).flatten := by
    rw [← List.flatten_append, ← List.map_append, List.take_append_drop]
  rw [this, List.length_append]; omega

theorem Kept.via {B : Nat} {w a b : World} (h : Kept B w a) (k : Kept B w b) : Kept B a b := fun i hi => (k i hi).trans (h i hi).symm
/-- What the loop over a list reads of the field's own box. -/
def FBox (w wr : World) (of : Nat) (v : Value) : Prop := w.heap.size + 2 ≤ wr.heap.size ∧ wr.cell? ⟨w.heap.size, 6, none⟩ = some (.int .i64 of) ∧ wr.cell? ⟨w.heap.size, 7, none⟩ = some v
theorem FBox.keep {w wr w' : World} {of : Nat} {v : Value} (h : FBox w wr of v) (ho : Only (fun j => w.heap.size + 2 ≤ j) wr w') : FBox w w' of v := by
  obtain ⟨h0, h1, h2⟩ := h
  have hk : w'.heap[w.heap.size]? = wr.heap[w.heap.size]? := ho.block _ (by omega) (by omega)
  exact ⟨Nat.le_trans h0 ho.size, (cell_kept (a := ⟨w.heap.size, 6, none⟩) hk).trans h1, (cell_kept (a := ⟨w.heap.size, 7, none⟩) hk).trans h2⟩
theorem Only.lift {w w' : World} {B : Nat} (h : Only (fun _ => False) w w') : Only (fun j => B ≤ j) w w' := h.mono fun _ _ h => h.elim
theorem Only.ownAt {w0 w w' : World} {B : Nat} (h0 : Only (fun _ => False) w0 w) (h : Only (fun j => B ≤ j) w w') (hB : w0.heap.size ≤ B) : Only (fun _ => False) w0 w' := h0.own h hB
theorem TrsC.at_ {w : World} {B : Nat} {l : List Tr} {A : Option Addr} {n c k : Nat} (h : TrsC w B l (.slice A n c)) (hk : k < l.length) :
    ∃ b o m A1 n1 c1 nl A2 n2 c2 A3 n3 c3, A = some ⟨b, o, none⟩ ∧ n = l.length ∧ b < B ∧ TrC w B l[k] [.int .i64 m, .slice A1 n1 c1, .bool nl, .slice A2 n2 c2, .slice A3 n3 c3] ∧
      w.cell? ⟨b, o + k * 5, none⟩ = some (.int .i64 m) ∧ w.cell? ⟨b, o + k * 5 + 1, none⟩ = some (.slice A1 n1 c1) ∧ w.cell? ⟨b, o + k * 5 + 2, none⟩ = some (.bool nl) ∧ w.cell? ⟨b, o + k * 5 + 3, none⟩ = some (.slice A2 n2 c2) ∧
      w.cell? ⟨b, o + k * 5 + 4, none⟩ = some (.slice A3 n3 c3) := by
  obtain ⟨f, hs, hT⟩ := h
  have hn : n = l.length := by obtain ⟨A', c', e, _⟩ := hs.sl; injection e
  obtain ⟨b, o, c', e, hc, hb, hlen, hcell⟩ := hs.lit (by decide) hk
  injection e with e1 e2 e3
  have ht := hT k _ (List.getElem?_eq_getElem hk)
  generalize f k = cs at ht hcell
  obtain ⟨m, A1, n1, c1, nl, A2, n2, c2, A3, n3, c3, rfl⟩ := ht.form
  exact ⟨b, o, m, A1, n1, c1, nl, A2, n2, c2, A3, n3, c3, e1, hn, hb, ht, hcell 0 _ rfl, hcell 1 _ rfl, hcell 2 _ rfl, hcell 3 _ rfl, hcell 4 _ rfl⟩

/-- What the loop's round reads: the field's box, the thing. -/
theorem keep7 {wr w' : World} {b0 p b o : Nat} {x6 x7 y0 y1 y2 y3 y4 : Value} (ho : Only (fun j => b0 ≤ j) wr w') (hs : b0 ≤ wr.heap.size) (hp : p < b0) (hb : b < b0)
    (h : wr.cell? ⟨p, 6, none⟩ = some x6 ∧ wr.cell? ⟨p, 7, none⟩ = some x7 ∧ wr.cell? ⟨b, o, none⟩ = some y0 ∧ wr.cell? ⟨b, o + 1, none⟩ = some y1 ∧ wr.cell? ⟨b, o + 2, none⟩ = some y2 ∧ wr.cell? ⟨b, o + 3, none⟩ = some y3 ∧ wr.cell? ⟨b, o + 4, none⟩ = some y4) :
    w'.cell? ⟨p, 6, none⟩ = some x6 ∧ w'.cell? ⟨p, 7, none⟩ = some x7 ∧ w'.cell? ⟨b, o, none⟩ = some y0 ∧ w'.cell? ⟨b, o + 1, none⟩ = some y1 ∧ w'.cell? ⟨b, o + 2, none⟩ = some y2 ∧ w'.cell? ⟨b, o + 3, none⟩ = some y3 ∧ w'.cell? ⟨b, o + 4, none⟩ = some y4 := by
  have hp' : w'.heap[p]? = wr.heap[p]? := ho.block _ (by omega) (by omega)
  have hb' : w'.heap[b]? = wr.heap[b]? := ho.block _ (by omega) (by omega)
  obtain ⟨h1, h2, h3, h4, h5, h6, h7⟩ := h
  exact ⟨(cell_kept (a := ⟨p, _, none⟩) hp').trans h1, (cell_kept (a := ⟨p, _, none⟩) hp').trans h2, (cell_kept (a := ⟨b, _, none⟩) hb').trans h3, (cell_kept (a := ⟨b, _, none⟩) hb').trans h4, (cell_kept (a := ⟨b, _, none⟩) hb').trans h5, (cell_kept (a := ⟨b, _, none⟩) hb').trans h6, (cell_kept (a := ⟨b, _, none⟩) hb').trans h7⟩

/-- What is written of a list's things. -/
def listB (of : Nat) (sub : List Fld) (null : Bool) (ver : Int) (flex : Bool) (l : List Tr) : List UInt8 :=
  cntEnc flex 4 (if null then none else some l.length) ++ (if null then [] else (l.map (valB of sub false ver flex)).flatten)
theorem listB_eq {kind : Nat} {fr to nu tag df : Int} {of : Nat} {sub : List Fld} (hk : kind = 11) (ver : Int) (flex : Bool) (t : Tr) :
    fieldB (.mk kind fr to nu tag df of sub) ver flex t = listB of sub (t.nl && mayN nu ver) ver flex (t.l.take most) := by
  simp only [fieldB, if_pos hk, listB]
  cases hn : (t.nl && mayN nu ver)
  · simp only [Bool.false_eq_true, if_false]
    congr 2
    all_goals
      apply List.map_congr_left
      intro x _
      unfold valB partB
      by_cases h10 : of = 10
      · simp only [if_pos h10]
      · simp only [if_neg h10]
  · rfl

set_option maxRecDepth 100000 in
theorem field_list (w : World) (B : Nat) (fr to nu tag df : Int) (of : Nat) (sub : List Fld) (AS : Option Addr) (nS cS : Nat) (ver : Int) (flex : Bool) (n : Int) (A1 : Option Addr) (n1 c1 : Nat) (nl : Bool) (A2 : Option Addr) (n2 c2 : Nat) (A3 : Option Addr) (n3 c3 : Nat) (null : Bool) (l : List Tr)
    (hB : B ≤ w.heap.size) (hF : FldsC w B sub (.slice AS nS cS)) (hL : TrsC w B l (.slice A2 n2 c2)) (hp : of = 10 → PartC flex sub)
    (hN : ∀ w', Kept B w w' → Calls Tryd.prog 144 #[.agg #[.int .i64 11, .int .i64 fr, .int .i64 to, .int .i64 nu, .int .i64 tag, .int .i64 df, .int .i64 of, .slice AS nS cS], .int .i64 ver, .agg #[.int .i64 n, .slice A1 n1 c1, .bool nl, .slice A2 n2 c2, .slice A3 n3 c3]] w' fun e w'' => e = .returned (.bool null) ∧ Only (fun _ => False) w' w'')
    (hl : (listB of sub null ver flex (l.take most)).length + 16 ≤ lim2) :
    Calls Tryd.prog 96 #[.agg #[.int .i64 11, .int .i64 fr, .int .i64 to, .int .i64 nu, .int .i64 tag, .int .i64 df, .int .i64 of, .slice AS nS cS], .int .i64 ver, .bool flex, .agg #[.int .i64 n, .slice A1 n1 c1, .bool nl, .slice A2 n2 c2, .slice A3 n3 c3]] w
      (SpP 5 w (listB of sub null ver flex (l.take most))) := by
  obtain ⟨i0, hi, hz0, hz1, hz2⟩ := info_u8
  have HB := Lib.hid hB
  have HF := Lib.hid hF
  have HLl := Lib.hid hL
  have HP := Lib.hid hp
  have HN := Lib.hid hN
  have hm : (l.take most).length ≤ 32767 := by rw [List.length_take]; exact Nat.min_le_left _ _
  obtain ⟨l', hl'⟩ : ∃ l', l.take most = l' := ⟨_, rfl⟩
  rw [hl'] at hl hm ⊢
  have HL' := Lib.hid hl'
  have HL := Lib.hid hl
  clear hB hF hL hp hN hl hl'
  cases null
  · go_enter Tryd.func96, Tryd.ntmps96
    go_wp2_with (first
      | (go_at_call 144; refine (HN.out _ ?_).mono ?_; (exact (((Only.refl _ _).alloc _).alloc _ : Only (fun _ => False) w _).kept0 HB.out); rintro e1 w1 ⟨rfl, hw1⟩; have O1 := Lib.hid hw1.first2; have f40 := boxA hw1 0 rfl; have f46 := boxA hw1 6 rfl; have f47 := boxA hw1 7 rfl; have f73 := boxC hw1 3 rfl; have W1 := Lib.hid hw1; clear hw1)
      | (go_at_call 145; refine (sp_things _ B _ l ?_).mono ?_; (exact HLl.out.keep (O1.out.kept0 HB.out)); rintro e2 w2 ⟨v2, rfl, hv2, rfl⟩; rw [HL'.out] at hv2; have HT := Lib.hid hv2; obtain ⟨fT, hsl, hT⟩ := hv2; clear hT; obtain ⟨AT, cT, rfl, _⟩ := hsl.sl; clear hsl)
      | (go_at_call 146; refine (sp_counted _ flex false l'.length 4 ?_ (by decide)).mono ?_; (omega); rintro e3 w3 ⟨v3, rfl, ho3, hw3⟩; have O3 := Lib.hid (O1.out.trans hw3); have HO3 := Lib.hid ho3; have W3 := Lib.hid (W1.out.trans hw3); clear ho3 hw3))
    go_loopw [11, 31] (fun v i wr => ∃ k : Nat, k ≤ l'.length ∧ i = .int .i64 k ∧ Own 5 (w.heap.size + 2) wr v (cntEnc flex 4 (some l'.length) ++ ((l'.take k).map (valB of sub false ver flex)).flatten) ∧ Only (fun _ => False) w wr ∧ FBox w wr of (.slice AS nS cS))
      (fun _ i _ => l'.length - (intOf i).toNat)
    case atStart =>
      have hs2 : w.heap.size + 2 ≤ w3.heap.size := by have := W3.out.size; simpa using this
      exact ⟨0, Nat.zero_le _, rfl, by simpa using HO3.out.lower (by have := W1.out.size; simpa using this), O3.out, hs2, boxA W3.out 6 rfl, boxA W3.out 7 rfl⟩
    case round =>
      obtain ⟨k, hk, rfl, hown, honly, hbox⟩ := hrel
      have HO := Lib.hid hown
      have HW := Lib.hid honly
      have HBX := Lib.hid hbox
      clear hown honly f40 f46 f47 f73 HO3 O3 W3
      by_cases hlt : k < l'.length
      · have hTr := HT.out.keep ((O1.out.kept0 HB.out).via (HW.out.kept0 HB.out))
        obtain ⟨b, o, m', B1, m1, d1, nl', B2, m2, d2, B3, m3, d3, rfl, _, hbB, hT1, e0, e1, e2, e3, e4⟩ := hTr.at_ hlt
        have HT1 := Lib.hid hT1
        have hbox' := hbox
        obtain ⟨_, g6, g7⟩ := hbox'
        have hlt' : (k : Int) < (l'.length : Int) := by omega
        have hb' : b < wr.heap.size := by have := HB.out; have := HW.out.size; omega
        clear hTr hT1
        have hS : wr.cell? ⟨w.heap.size, 6, none⟩ = some (.int .i64 of) ∧ wr.cell? ⟨w.heap.size, 7, none⟩ = some (.slice AS nS cS) ∧ wr.cell? ⟨b, o + k * 5, none⟩ = some (.int .i64 m') ∧ wr.cell? ⟨b, o + k * 5 + 1, none⟩ = some (.slice B1 m1 d1) ∧ wr.cell? ⟨b, o + k * 5 + 2, none⟩ = some (.bool nl') ∧ wr.cell? ⟨b, o + k * 5 + 3, none⟩ = some (.slice B2 m2 d2) ∧ wr.cell? ⟨b, o + k * 5 + 4, none⟩ = some (.slice B3 m3 d3) := ⟨g6, g7, e0, e1, e2, e3, e4⟩
        have HS0 := Lib.hid hS
        have hfl := flat_take (valB of sub false ver flex) l' k hlt
        have hfe := flat_le (valB of sub false ver flex) l' (k + 1)
        have hlL := HL.out
        simp only [listB, Bool.false_eq_true, if_false, List.length_append] at hlL
        rw [hfl, List.length_append] at hfe
        have cV := Lib.hid (sp_value wr.drew B of sub (.slice AS nS cS) false ver flex l'[k] _ (Nat.le_trans HB.out HW.out.size) (HF.out.keep (HW.out.drew.kept0 HB.out)) (TrC.keep (w := wr) (w' := wr.drew) (fun _ _ => rfl) HT1.out) HP.out (by omega))
        have HLE : Hid ((cntEnc flex 4 (some l'.length) ++ ((l'.take k).map (valB of sub false ver flex)).flatten).length + (valB of sub false ver flex l'[k]).length ≤ lim2) := Lib.hid (by rw [List.length_append]; omega)
        have HFL := Lib.hid hfl
        have HbB : Hid (b < w.heap.size + 2) := Lib.hid (by have := HB.out; omega)
        have HX := Lib.hid hbox.1
        clear hfl hfe hlL hS
        go_wp2_with fail
        go_region_held3 (fun w' => w'.cell? ⟨w.heap.size, 6, none⟩ = some (.int .i64 of) ∧ w'.cell? ⟨w.heap.size, 7, none⟩ = some (.slice AS nS cS) ∧ w'.cell? ⟨b, o + k * 5, none⟩ = some (.int .i64 m') ∧ w'.cell? ⟨b, o + k * 5 + 1, none⟩ = some (.slice B1 m1 d1) ∧ w'.cell? ⟨b, o + k * 5 + 2, none⟩ = some (.bool nl') ∧ w'.cell? ⟨b, o + k * 5 + 3, none⟩ = some (.slice B2 m2 d2) ∧ w'.cell? ⟨b, o + k * 5 + 4, none⟩ = some (.slice B3 m3 d3))
          (first | exact HS0.out | exact HS1.out | exact HS2.out)
          (first
            | (refine step_app_oc rfl _ _ 22 rfl Tryd.underlying22 hi hz0 hz1 hz2 rfl HO1.out rfl HV1.out HB1.out HLE.out ?_; intro v5 w5 ho5 hw5; have HO5 := Lib.hid ho5; have HW5 := Lib.hid hw5; have HS2 := Lib.hid (keep7 hw5 HB1.out (Nat.lt_succ_of_lt (Nat.lt_succ_self _)) HbB.out HS1.out); clear ho5 hw5)
            | (go_at_call 147; refine cV.out.mono ?_; rintro e4 w4 ⟨v4, rfl, ho4, hw4'⟩; have hw4 := ((Only.refl (fun _ => False) wr).drew).trans hw4'; clear hw4'; have HW4 := Lib.hid hw4; have HV1 := Lib.hid ho4.oc; have HO1 := Lib.hid (HO.out.keep hw4); have HB1 := Lib.hid (Nat.le_trans HX.out hw4.size); have HS1 := Lib.hid (keep7 (b0 := w.heap.size + 2) hw4.lift HX.out (Nat.lt_succ_of_lt (Nat.lt_succ_self _)) HbB.out HS0.out); clear ho4 hw4))
        have HR : Hid (Own 5 (w.heap.size + 2) w5 v5 (cntEnc flex 4 (some l'.length) ++ ((l'.take (k + 1)).map (valB of sub false ver flex)).flatten) ∧ Only (fun _ => False) w w5 ∧ FBox w w5 of (.slice AS nS cS)) :=
          Lib.hid ⟨by rw [HFL.out, ← List.append_assoc]; exact HO5.out, (HW.out.trans HW4.out).ownAt HW5.out (Nat.le_succ_of_le (Nat.le_succ _)), HBX.out.keep (HW4.out.lift.trans HW5.out)⟩
        clear HO5 HW5 HW4 HS0 HS1 HS2 HV1 HO1 HB1 cV HLE HFL HbB HX HO HW HBX HT1 e0 e1 e2 e3 e4 g6 g7 hbox
        go_wp2
        go_roundw
        case rel => exact ⟨k + 1, hlt, by go_num, HR.out⟩
        case measure => simp [intOf]; omega
      · have hk2 : k = l'.length := by omega
        subst hk2
        have hlt' : ¬ ((l'.length : Int) < (l'.length : Int)) := by omega
        go_wp2
        go_ret
        refine ⟨_, rfl, ?_, HW.out⟩
        have := HO.out.lower (base' := w.heap.size) (Nat.le_succ_of_le (Nat.le_succ _))
        rw [List.take_length] at this
        exact this
  · go_enter Tryd.func96, Tryd.ntmps96
    go_wp2_with (first
      | (go_at_call 144; refine (HN.out _ ?_).mono ?_; (exact (((Only.refl _ _).alloc _).alloc _ : Only (fun _ => False) w _).kept0 HB.out); rintro e1 w1 ⟨rfl, hw1⟩; have O1 := Lib.hid hw1.first2; have f40 := boxA hw1 0 rfl; have f46 := boxA hw1 6 rfl; have f47 := boxA hw1 7 rfl; have f73 := boxC hw1 3 rfl; have W1 := Lib.hid hw1; clear hw1)
      | (go_at_call 145; refine (sp_things _ B _ l ?_).mono ?_; (exact HLl.out.keep (O1.out.kept0 HB.out)); rintro e2 w2 ⟨v2, rfl, hv2, rfl⟩; rw [HL'.out] at hv2; have HT := Lib.hid hv2; obtain ⟨fT, hsl, hT⟩ := hv2; clear hT; obtain ⟨AT, cT, rfl, _⟩ := hsl.sl; clear hsl)
      | (go_at_call 146; refine (sp_counted _ flex true 0 4 ?_ (by decide)).mono ?_; (omega); rintro e3 w3 ⟨v3, rfl, ho3, hw3⟩; have O3 := Lib.hid (O1.out.trans hw3); have HO3 := Lib.hid ho3; have W3 := Lib.hid (W1.out.trans hw3); clear ho3 hw3))
    go_loopw [11, 31] (fun v i wr => i = .int .i64 0 ∧ v = v3 ∧ wr = w3) (fun _ _ _ => 0)
    case atStart => exact ⟨rfl, rfl, rfl⟩
    case round =>
      obtain ⟨rfl, rfl, rfl⟩ := hrel
      go_wp2
      go_ret
      refine ⟨_, rfl, ?_, O3.out⟩
      have := HO3.out.lower (base' := w.heap.size) O1.out.size
      simpa [listB] using this

/-- The function 'field' writes this field. -/
def FieldC (flex : Bool) (f : Fld) : Prop := ∀ (w : World) (B : Nat) (cs : List Value) (ver : Int) (t : Tr) (ts : List Value), B ≤ w.heap.size → FldC w B f cs → TrC w B t ts → (fieldB f ver flex t).length + 16 ≤ lim2 →
  Calls Tryd.prog 96 #[.agg cs.toArray, .int .i64 ver, .bool flex, .agg ts.toArray] w (SpP 5 w (fieldB f ver flex t))
set_option maxRecDepth 100000 in
theorem field_scal (w : World) (kind : Nat) (fr to nu tag df : Int) (of : Nat) (AS : Option Addr) (nS cS : Nat) (ver : Int) (flex : Bool) (n : Int) (A1 : Option Addr) (n1 c1 : Nat) (nl : Bool) (A2 : Option Addr) (n2 c2 : Nat) (A3 : Option Addr) (n3 c3 : Nat) (null : Bool) (out : List UInt8)
    (k11 : ¬ kind = 11) (k10 : ¬ kind = 10)
    (hN : ∀ w', Only (fun _ => False) w w' → Calls Tryd.prog 144 #[.agg #[.int .i64 kind, .int .i64 fr, .int .i64 to, .int .i64 nu, .int .i64 tag, .int .i64 df, .int .i64 of, .slice AS nS cS], .int .i64 ver, .agg #[.int .i64 n, .slice A1 n1 c1, .bool nl, .slice A2 n2 c2, .slice A3 n3 c3]] w' fun e w'' => e = .returned (.bool null) ∧ Only (fun _ => False) w' w'')
    (hV : ∀ w', Only (fun _ => False) w w' → Calls Tryd.prog 147 #[.int .i64 kind, .slice AS nS cS, .bool null, .int .i64 ver, .bool flex, .agg #[.int .i64 n, .slice A1 n1 c1, .bool nl, .slice A2 n2 c2, .slice A3 n3 c3]] w' (SpP 5 w' out)) :
    Calls Tryd.prog 96 #[.agg #[.int .i64 kind, .int .i64 fr, .int .i64 to, .int .i64 nu, .int .i64 tag, .int .i64 df, .int .i64 of, .slice AS nS cS], .int .i64 ver, .bool flex, .agg #[.int .i64 n, .slice A1 n1 c1, .bool nl, .slice A2 n2 c2, .slice A3 n3 c3]] w
      (SpP 5 w out) := by
  have HN := Lib.hid hN
  have HV := Lib.hid hV
  clear hN hV
  have z11 : ((kind : Int) == 11) = false := dec_kind kind 11 k11
  have z10 : ((kind : Int) == 10) = false := dec_kind kind 10 k10
  clear k11 k10
  go_enter Tryd.func96, Tryd.ntmps96
  go_wp2_with (first
    | (go_at_call 144; refine (HN.out _ ?_).mono ?_; (exact ((Only.refl _ _).alloc _).alloc _); rintro e1 w1 ⟨rfl, hw1⟩; have O1 := Lib.hid hw1.first2; have f0 := boxA hw1 0 rfl; have f3 := boxA hw1 3 rfl; have f7 := boxA hw1 7 rfl; have g0 := boxC hw1 0 rfl; have g1 := boxC hw1 1 rfl; have g2 := boxC hw1 2 rfl; have g3 := boxC hw1 3 rfl; have g4 := boxC hw1 4 rfl; clear hw1)
    | (go_at_call 147; refine (HV.out _ O1.out).mono ?_; rintro e2 w2 h2; have H2 := Lib.hid (h2.up O1.out); clear h2; obtain ⟨v2, rfl, h2⟩ := H2.out; clear h2))
  go_ret
  exact H2.out
set_option maxRecDepth 100000 in
theorem field_part (w : World) (fr to nu tag df : Int) (of : Nat) (AS : Option Addr) (nS cS : Nat) (ver : Int) (flex : Bool) (n : Int) (A1 : Option Addr) (n1 c1 : Nat) (nl : Bool) (A2 : Option Addr) (n2 c2 : Nat) (A3 : Option Addr) (n3 c3 : Nat) (null : Bool) (out : List UInt8)
    (kO : nu < 0)
    (hN : ∀ w', Only (fun _ => False) w w' → Calls Tryd.prog 144 #[.agg #[.int .i64 10, .int .i64 fr, .int .i64 to, .int .i64 nu, .int .i64 tag, .int .i64 df, .int .i64 of, .slice AS nS cS], .int .i64 ver, .agg #[.int .i64 n, .slice A1 n1 c1, .bool nl, .slice A2 n2 c2, .slice A3 n3 c3]] w' fun e w'' => e = .returned (.bool null) ∧ Only (fun _ => False) w' w'')
    (hV : ∀ w', Only (fun _ => False) w w' → Calls Tryd.prog 147 #[.int .i64 10, .slice AS nS cS, .bool null, .int .i64 ver, .bool flex, .agg #[.int .i64 n, .slice A1 n1 c1, .bool nl, .slice A2 n2 c2, .slice A3 n3 c3]] w' (SpP 5 w' out)) :
    Calls Tryd.prog 96 #[.agg #[.int .i64 10, .int .i64 fr, .int .i64 to, .int .i64 nu, .int .i64 tag, .int .i64 df, .int .i64 of, .slice AS nS cS], .int .i64 ver, .bool flex, .agg #[.int .i64 n, .slice A1 n1 c1, .bool nl, .slice A2 n2 c2, .slice A3 n3 c3]] w
      (SpP 5 w out) := by
  have HN := Lib.hid hN
  have HV := Lib.hid hV
  clear hN hV
  have hnu : decide (0 ≤ nu) = false := by simpa using kO
  clear kO
  go_enter Tryd.func96, Tryd.ntmps96
  go_wp2_with (first
    | (go_at_call 144; refine (HN.out _ ?_).mono ?_; (exact ((Only.refl _ _).alloc _).alloc _); rintro e1 w1 ⟨rfl, hw1⟩; have O1 := Lib.hid hw1.first2; have f0 := boxA hw1 0 rfl; have f3 := boxA hw1 3 rfl; have f7 := boxA hw1 7 rfl; have g0 := boxC hw1 0 rfl; have g1 := boxC hw1 1 rfl; have g2 := boxC hw1 2 rfl; have g3 := boxC hw1 3 rfl; have g4 := boxC hw1 4 rfl; clear hw1)
    | (go_at_call 147; refine (HV.out _ O1.out).mono ?_; rintro e2 w2 h2; have H2 := Lib.hid (h2.up O1.out); clear h2; obtain ⟨v2, rfl, h2⟩ := H2.out; clear h2))
  go_ret
  exact H2.out

theorem fieldB_val {kind : Nat} {fr to nu tag df : Int} {of : Nat} {sub : List Fld} (k11 : ¬ kind = 11) (kO : kind = 10 → nu < 0) (ver : Int) (flex : Bool) (t : Tr) :
    fieldB (.mk kind fr to nu tag df of sub) ver flex t = valB kind sub (t.nl && mayN nu ver) ver flex t := by
  simp only [fieldB, if_neg k11, valB]
  by_cases h10 : kind = 10
  · have := kO h10
    rw [if_pos h10, if_pos h10, if_neg (by omega)]
    rfl
  · rw [if_neg h10, if_neg h10]

/-- A field that is no part that may be null. -/
def Fld.plainOpt (f : Fld) : Prop := f.kind = 10 → f.nu < 0
theorem sp_field (flex : Bool) (f : Fld) (hO : f.plainOpt) (hp : (f.kind = 10 ∨ f.kind = 11 ∧ f.of = 10) → PartC flex f.sub) : FieldC flex f := by
  intro w B cs ver t ts hB hF hT hl
  cases hF with
  | @mk kind of fr to nu tag df sub vs f hs hS =>
  have hF' : FldC w B (.mk kind fr to nu tag df of sub) [.int .i64 kind, .int .i64 fr, .int .i64 to, .int .i64 nu, .int .i64 tag, .int .i64 df, .int .i64 of, vs] := .mk f hs hS
  obtain ⟨AS, cS, rfl, _⟩ := hs.sl
  obtain ⟨n, A1, n1, c1, nl, A2, n2, c2, A3, n3, c3, rfl⟩ := hT.form
  by_cases k11 : kind = 11
  · subst k11
    have hLt : TrsC w B t.l (.slice A2 n2 c2) := by
      cases hT with
      | mk fl fu h0 h1 hs' hl' hL hu hU => exact ⟨fl, hl', hL⟩
    rw [listB_eq rfl] at hl ⊢
    exact field_list w B fr to nu tag df of sub AS _ cS ver flex n A1 n1 c1 nl A2 n2 c2 A3 n3 c3 _ t.l hB ⟨f, hs, hS⟩ hLt (fun h => hp (.inr ⟨rfl, h⟩))
      (fun w' hk => sp_null w' B _ _ ver t _ (hF'.keep hk) (hT.keep hk)) hl
  · have hO' : kind = 10 → nu < 0 := hO
    rw [fieldB_val k11 hO'] at hl ⊢
    have hN := (fun w' (hk : Only (fun _ => False) w w') => sp_null w' B _ _ ver t _ (hF'.keep (hk.kept0 hB)) (hT.keep (hk.kept0 hB)))
    have hV := (fun w' (hk : Only (fun _ => False) w w') => sp_value w' B kind sub _ (t.nl && mayN nu ver) ver flex t _ (Nat.le_trans hB hk.size) (FldsC.keep ⟨f, hs, hS⟩ (hk.kept0 hB)) (hT.keep (hk.kept0 hB)) (fun h => hp (.inl h)) hl)
    by_cases k10 : kind = 10
    · subst k10
      exact field_part w fr to nu tag df of AS _ cS ver flex n A1 n1 c1 nl A2 n2 c2 A3 n3 c3 _ _ (hO' rfl) hN hV
    · exact field_scal w kind fr to nu tag df of AS _ cS ver flex n A1 n1 c1 nl A2 n2 c2 A3 n3 c3 _ _ k11 k10 hN hV
end Go.Proofs.YtidhhlncmegjaaaDoor.Kf
