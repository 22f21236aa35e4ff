/- What the reference writes of a part with tagged fields, where each of these is a list that holds nothing. -/
import Derived.Test.YthlfepgcjomhpaaPG
namespace Go.Proofs.Ythlfepgcjomhpaa.Kf
set_option linter.unusedVariables false
set_option linter.unusedSimpArgs false
open Go Go.RowKit

set_option maxRecDepth 100000 in
theorem sp_knownN (w : World) (B : Nat) (fs : List Fld) (v : Value) (hB : B ≤ w.heap.size) (hFs : FldsC w B fs v) (htag : ∀ f ∈ fs, f.tag ≤ 1000) (hlen : fs.length ≤ 65536) :
    Calls Try.prog 57 #[v] w fun e w' => ∃ N : Nat, e = .returned (.int .u32 N) ∧ N ≤ 1001 ∧ Only (fun _ => False) w w' := by
  obtain ⟨ff, hsl, _⟩ := id hFs
  obtain ⟨A, c, rfl, _⟩ := hsl.sl
  have HB := Lib.hid hB
  have HFs := Lib.hid hFs
  have HTG := Lib.hid htag
  clear hB hFs htag hsl
  go_enter Try.func57, Try.ntmps57
  go_wp2_with fail
  go_loopw [3, 5, 8] (fun u _ i wr => ∃ k N : Nat, k ≤ fs.length ∧ i = .int .i64 k ∧ u = .int .u32 N ∧ N ≤ 1001 ∧ Only (fun _ => False) w wr) (fun _ _ i _ => fs.length - (intOf i).toNat)
  case atStart => exact ⟨0, 0, Nat.zero_le _, rfl, rfl, by decide, Only.refl _ _⟩
  case round =>
    obtain ⟨k, N, hk, rfl, rfl, hN, honly⟩ := hrel
    have HW := Lib.hid honly
    clear honly
    by_cases hlt : k < fs.length
    · obtain ⟨b, o, AF, nF, cF, rfl, _, hbB, hf, e0, e1, e2, e3, e4, e5, e6, e7⟩ := (HFs.out.keep (HW.out.kept0 HB.out)).at_ hlt
      have htg : fs[k].tag ≤ 1000 := HTG.out _ (List.getElem_mem hlt)
      clear hf hbB
      generalize fs[k] = f at e0 e1 e2 e3 e4 e5 e6 e7 htg
      generalize f.kind = kind at e0
      generalize f.fr = fr at e1
      generalize f.to = to at e2
      generalize f.nu = nu at e3
      generalize f.tag = tag at e4 htg
      generalize f.df = df at e5
      generalize f.of = of at e6
      have hlt' : (k : Int) < (fs.length : Int) := by omega
      have e9 : wrap64 ((k : Int) + 1) = (k : Int) + 1 := by unfold wrap64; omega
      have O2 := HW.out.trans ((Only.refl (fun _ => False) wr).alloc (.cells #[.int .i64 kind, .int .i64 fr, .int .i64 to, .int .i64 nu, .int .i64 tag, .int .i64 df, .int .i64 of, .slice AF nF cF] 74))
      have HO2 := Lib.hid O2
      clear O2
      by_cases tt : 0 ≤ tag
      · obtain ⟨m, rfl⟩ : ∃ m : Nat, tag = m := ⟨tag.toNat, by omega⟩
        have ew : IntKind.u32.wrap (m : Int) = (m : Int) := by unfold IntKind.wrap; simp [IntKind.signed, IntKind.bits] <;> omega
        have ew2 : IntKind.u32.wrap ((m : Int) + 1) = (m : Int) + 1 := by unfold IntKind.wrap; simp [IntKind.signed, IntKind.bits] <;> omega
        go_wp2_with fail
        refine ⟨⟨k + 1, max N (m + 1), hlt, rfl, ?_, by omega, HO2.out⟩, by simp [intOf]; omega⟩
        congr 1
        split <;> omega
      · go_wp2_with fail
        go_roundw
        case rel => exact ⟨k + 1, N, hlt, rfl, rfl, hN, HO2.out⟩
        case measure => exact msrI fs.length k _ _ hlt rfl rfl
    · have hk2 : k = fs.length := by omega
      subst hk2
      have hlt' : ¬ ((fs.length : Int) < (fs.length : Int)) := by omega
      go_wp2_with fail
      go_ret
      exact ⟨N, rfl, hN, HW.out⟩

set_option maxRecDepth 100000 in
theorem sp_usual0 (w : World) (B : Nat) (f : Fld) (cs : List Value) (t : Tr) (ts : List Value) (hk : f.kind = 11) (hl0 : t.l = []) (hF : FldC w B f cs) (hT : TrC w B t ts) :
    Calls Try.prog 58 #[.agg cs.toArray, .agg ts.toArray] w fun e w' => e = .returned (.bool true) ∧ Only (fun _ => False) w w' := by
  cases hF with
  | @mk kind of fr to nu tag df sub vs ff hs hS =>
  have k11 : kind = 11 := hk
  subst k11
  obtain ⟨AS, cS, rfl, _⟩ := hs.sl
  cases hT with
  | @mk n s nl l u vs vl vu fl fu h0 h1 hs' hl hL hu hU =>
  have hl0' : l = [] := hl0
  subst hl0'
  obtain ⟨A1, c1, rfl, _⟩ := hl.sl
  obtain ⟨A2, c2, rfl, _⟩ := hu.sl
  obtain ⟨A3, c3, rfl, _⟩ := hs'.sl
  generalize sub.length = nS
  generalize s.length = nB
  generalize u.length = nU
  clear hs hS hs' hl hL hu hU
  go_enter Try.func58, Try.ntmps58
  go_wp2_with fail
  go_ret
  exact ⟨rfl, ((Only.refl _ _).alloc _).alloc _⟩

set_option maxRecDepth 100000 in
theorem sp_unknown0 (w : World) (B : Nat) (fs : List Fld) (v : Value) (hB : B ≤ w.heap.size) (hFs : FldsC w B fs v) (htag : ∀ f ∈ fs, f.tag ≤ 1000) (hlen : fs.length ≤ 65536) (A : Option Addr) (c : Nat) :
    Calls Try.prog 59 #[v, .slice A 0 c] w fun e w' => e = .returned (.slice none 0 0) ∧ Only (fun _ => False) w w' := by
  have cK := Lib.hid (sp_knownN w B fs v hB hFs htag hlen)
  clear hB hFs htag
  go_enter Try.func59, Try.ntmps59
  go_wp2_with (first
    | (go_at_call 57; refine cK.out.mono ?_; rintro e1 w1 ⟨N, rfl, hN, hw1⟩; have HW1 := Lib.hid hw1; clear hw1 cK)
    | fail)
  refine wp_loop_once ?_
  go_wp2_with fail
  go_ret
  exact ⟨rfl, HW1.out⟩
/-! ### the part -/
def oneU (f : Fld) (ver : Int) (flex : Bool) (t : Tr) : List UInt8 := if f.tag < 0 then oneB f ver flex t else []
def toU (fs : List Fld) (ver : Int) (flex : Bool) (l : List Tr) : Nat → List UInt8
  | 0 => []
  | k + 1 => toU fs ver flex l k ++ (match fs[k]? with | some f => oneU f ver flex (trAt l k) | none => [])
theorem toU_step {fs : List Fld} {ver : Int} {flex : Bool} {l : List Tr} {k : Nat} (h : k < fs.length) : toU fs ver flex l (k + 1) = toU fs ver flex l k ++ oneU fs[k] ver flex (trAt l k) := by
  simp only [toU, List.getElem?_eq_getElem h]
/-- A field at a tree: written as it should be. -/
def FieldT (flex : Bool) (f : Fld) (t : Tr) : Prop := ∀ (w : World) (B : Nat) (cs : List Value) (ver : Int) (ts : List Value), B ≤ w.heap.size → FldC w B f cs → TrC w B t ts → (fieldB f ver flex t).length + 16 ≤ lim2 →
  Calls Try.prog 55 #[.agg cs.toArray, .int .i64 ver, .bool flex, .agg ts.toArray] w (SpP 5 w (fieldB f ver flex t))
/-- A part at a tree: its fields are written as they should be, or are tagged lists that hold nothing. -/
structure UsP (flex : Bool) (fs : List Fld) (ver : Int) (t : Tr) : Prop where
  len : fs.length ≤ 65536
  f : ∀ i (h : i < fs.length), (fs[i].tag < 0 ∧ FieldT flex fs[i] (trAt t.l i)) ∨ (0 ≤ fs[i].tag ∧ fs[i].tag ≤ 1000 ∧ fs[i].kind = 11 ∧ (trAt t.l i).l = [])
  b : ∀ k, k ≤ fs.length → (toU fs ver flex t.l k).length ≤ 1000
  u : t.u = []
theorem UsP.tag {flex : Bool} {fs : List Fld} {ver : Int} {t : Tr} (h : UsP flex fs ver t) : ∀ f ∈ fs, f.tag ≤ 1000 := by
  intro f hf
  obtain ⟨i, hi, rfl⟩ := List.getElem_of_mem hf
  rcases h.f i hi with h | h
  · have := h.1; omega
  · exact h.2.1

set_option maxHeartbeats 4000000 in
set_option maxRecDepth 100000 in
theorem part_us_false (fs : List Fld) (ver : Int) (t : Tr) (hU : UsP false fs ver t) (w : World) (B : Nat) (v : Value) (ts : List Value) (hB : B ≤ w.heap.size) (hFs : FldsC w B fs v) (hT : TrC w B t ts) :
    Calls Try.prog 32 #[v, .int .i64 ver, .bool false, .agg ts.toArray] w (SpP 5 w (toU fs ver false t.l fs.length)) := by
  have hlen := hU.len
  obtain ⟨i0, hi, hz0, hz1, hz2⟩ := info_u8
  obtain ⟨ff, hsl, _⟩ := id hFs
  obtain ⟨A, c, rfl, _⟩ := hsl.sl
  obtain ⟨n, A1, n1, c1, nl, A2, n2, c2, A3, n3, c3, rfl⟩ := hT.form
  have HB := Lib.hid hB
  have HFs := Lib.hid hFs
  have HT := Lib.hid hT
  have HU := Lib.hid hU
  have ht0 : TBox w.heap.size (w.alloc (.cells #[.int .i64 n, .slice A1 n1 c1, .bool nl, .slice A2 n2 c2, .slice A3 n3 c3] 48)) (.int .i64 n) (.slice A1 n1 c1) (.bool nl) (.slice A2 n2 c2) (.slice A3 n3 c3) := by
    refine ⟨by simp, ?_, ?_, ?_, ?_, ?_⟩ <;> simp [World.cell?_alloc_new]
  have HT0 := Lib.hid ht0
  clear hB hFs hT hU hsl ht0
  go_enter Try.func32, Try.ntmps32
  go_wp2_with fail
  go_loopw [9, 23] (fun v i wr => ∃ k : Nat, k ≤ fs.length ∧ i = .int .i64 k ∧ Own 5 (w.heap.size + 1) wr v (toU fs ver false t.l k) ∧ Only (fun _ => False) w wr ∧ TBox w.heap.size wr (.int .i64 n) (.slice A1 n1 c1) (.bool nl) (.slice A2 n2 c2) (.slice A3 n3 c3))
    (fun _ i _ => fs.length - (intOf i).toNat)
  case atStart => exact ⟨0, Nat.zero_le _, rfl, World.ownsRow_nil _ _ _ _, (Only.refl _ _).alloc _, HT0.out⟩
  case round =>
    obtain ⟨k, hk, rfl, hown, honly, hbox⟩ := hrel
    have HO := Lib.hid hown
    have HW := Lib.hid honly
    have HBX := Lib.hid hbox
    clear hown honly HT0
    by_cases hlt : k < fs.length
    · obtain ⟨b, o, AF, nF, cF, rfl, _, hbB, hf, e0, e1, e2, e3, e4, e5, e6, e7⟩ := (HFs.out.keep (HW.out.kept0 HB.out)).at_ hlt
      obtain ⟨hws, y0, y1, y2, y3, y4⟩ := hbox
      have hor := HU.out.f k hlt
      have hstep := toU_step (ver := ver) (flex := false) (l := t.l) hlt
      have hle := HU.out.b (k + 1) hlt
      rw [hstep, List.length_append] at hle
      have hone : oneU fs[k] ver false (trAt t.l k) = if fs[k].tag < 0 then (if hasV fs[k].fr fs[k].to ver then fieldB fs[k] ver false (trAt t.l k) else []) else [] := rfl
      generalize fs[k] = f at hf e0 e1 e2 e3 e4 e5 e6 e7 hor hstep hle hone
      have HSt := Lib.hid hstep
      have HFd := Lib.hid hf
      have HLe := Lib.hid hle
      have HOR := Lib.hid hor
      have hone2 := hone
      have HOne := Lib.hid hone
      have HbB := Lib.hid hbB
      have hb' : b < wr.heap.size := by have := HB.out; have := HW.out.size; omega
      have hlt' : (k : Int) < (fs.length : Int) := by omega
      have hws' : w.heap.size + 1 ≤ wr.heap.size := hws
      have hw64 : wrap64 ((k : Int) + 1) = (k : Int) + 1 := by unfold wrap64; omega
      have cH := Lib.hid (fun w' (hw : Only (fun _ => False) wr w') => sp_has w' B f _ ver (hf.keep (hw.kept0 (Nat.le_trans HB.out HW.out.size))))
      clear hstep hf hone hle hbB hor
      generalize f.kind = kind at HFd e0 e1 e2 e3 e4 e5 e6 e7 cH
      generalize f.nu = nu at HFd e0 e1 e2 e3 e4 e5 e6 e7 cH
      generalize f.df = df at HFd e0 e1 e2 e3 e4 e5 e6 e7 cH
      generalize f.of = of at HFd e0 e1 e2 e3 e4 e5 e6 e7 cH
      generalize htag : f.tag = tag at HFd e0 e1 e2 e3 e4 e5 e6 e7 cH
      by_cases htg : tag < 0
      rotate_left
      · have tt : decide (tag < 0) = false := by simpa using htg
        have HHT := Lib.hid htag
        have HHG := Lib.hid htg
        clear htag htg
        generalize f.fr = fr at HFd e0 e1 e2 e3 e4 e5 e6 e7 cH
        generalize f.to = to at HFd e0 e1 e2 e3 e4 e5 e6 e7 cH
        go_wp2_with fail
        go_roundw
        case rel =>
          have O1 := (Only.refl (fun _ => False) wr).alloc (.cells #[.int .i64 kind, .int .i64 fr, .int .i64 to, .int .i64 nu, .int .i64 tag, .int .i64 df, .int .i64 of, .slice AF nF cF] 74)
          refine ⟨k + 1, hlt, by go_num, ?_, HW.out.trans O1, HBX.out.keep (b0 := w.heap.size + 1) O1.lift (Nat.lt_succ_self _)⟩
          rw [HSt.out, HOne.out, if_neg (by rw [HHT.out]; exact HHG.out)]
          simpa using HO.out.keep O1
        case measure => simp [intOf]; omega
      have tt : decide (tag < 0) = true := by simpa using htg
      have hFT : FieldT false f (trAt t.l k) := by
        rcases HOR.out with h | h
        · exact h.2
        · have := h.1; omega
      have HC := Lib.hid hFT
      rw [if_pos (by rw [htag]; exact htg)] at hone2
      have HOne := Lib.hid hone2
      clear htag htg hFT hone2
      cases hhv : hasV f.fr f.to ver
      · rw [hhv] at cH
        generalize f.fr = fr at HFd e0 e1 e2 e3 e4 e5 e6 e7 cH
        generalize f.to = to at HFd e0 e1 e2 e3 e4 e5 e6 e7 cH
        go_wp2_with (go_at_call 54; refine (cH.out _ ?_).mono ?_; (exact (Only.refl _ _).alloc _); rintro e1 w1 ⟨rfl, hw1⟩; have HW1 := Lib.hid hw1; clear hw1)
        go_roundw
        case rel =>
          have O1 := ((Only.refl (fun _ => False) wr).alloc _).trans HW1.out
          refine ⟨k + 1, hlt, by go_num, ?_, HW.out.trans O1, HBX.out.keep (b0 := w.heap.size + 1) O1.lift (Nat.lt_succ_self _)⟩
          rw [HSt.out, HOne.out, hhv]
          simpa using HO.out.keep O1
        case measure => simp [intOf]; omega
      · rw [hhv] at cH
        have HH := Lib.hid hhv
        clear hhv
        generalize f.fr = fr at HFd e0 e1 e2 e3 e4 e5 e6 e7 cH
        generalize f.to = to at HFd e0 e1 e2 e3 e4 e5 e6 e7 cH
        go_wp2_with (go_at_call 54; refine (cH.out _ ?_).mono ?_; (exact (Only.refl _ _).alloc _); rintro e1 w1 ⟨rfl, hw1⟩; have HW1 := Lib.hid hw1; clear hw1)
        have O1 := Lib.hid (((Only.refl (fun _ => False) wr).alloc _).trans HW1.out)
        have HS1 := Lib.hid (And.intro (boxN HW1.out 0 rfl) (And.intro (boxN HW1.out 1 rfl) (And.intro (boxN HW1.out 2 rfl) (And.intro (boxN HW1.out 3 rfl) (And.intro (boxN HW1.out 4 rfl) (And.intro (boxN HW1.out 5 rfl) (And.intro (boxN HW1.out 6 rfl) (And.intro (boxN HW1.out 7 rfl) (HBX.out.keep (b0 := w.heap.size + 1) O1.out.lift (Nat.lt_succ_self _)).2))))))))
        have hz1' : wr.heap.size < w1.heap.size := by have := HW1.out.size; simp at this; omega
        have HZ := Lib.hid hz1'
        have HZ7 : Hid (w.heap.size < w1.heap.size) := Lib.hid (by omega)
        have HB1 : Hid (B ≤ w1.heap.size) := Lib.hid (by have := HB.out; omega)
        have cA := Lib.hid (sp_at w1.drew B t _ k HB1.out (TrC.keep (w := w) (w' := w1.drew) ((HW.out.trans O1.out).drew.kept0 HB.out) HT.out))
        have HX : Hid (fieldB f ver false (trAt t.l k) = oneU f ver false (trAt t.l k)) := Lib.hid (by rw [HOne.out, HH.out]; rfl)
        have HLF : Hid ((fieldB f ver false (trAt t.l k)).length + 16 ≤ lim2) := Lib.hid (by rw [HX.out]; have := HLe.out; unfold lim2; omega)
        have HLE : Hid ((toU fs ver false t.l k).length + (fieldB f ver false (trAt t.l k)).length ≤ lim2) := Lib.hid (by rw [HX.out]; have := HLe.out; unfold lim2; omega)
        clear hz1' e0 e1 e2 e3 e4 e5 e6 e7 y0 y1 y2 y3 y4
        go_region_held3 (fun w' => w'.cell? ⟨wr.heap.size, 0, none⟩ = some (.int .i64 kind) ∧ w'.cell? ⟨wr.heap.size, 1, none⟩ = some (.int .i64 fr) ∧ w'.cell? ⟨wr.heap.size, 2, none⟩ = some (.int .i64 to) ∧ w'.cell? ⟨wr.heap.size, 3, none⟩ = some (.int .i64 nu) ∧ w'.cell? ⟨wr.heap.size, 4, none⟩ = some (.int .i64 tag) ∧ w'.cell? ⟨wr.heap.size, 5, none⟩ = some (.int .i64 df) ∧ w'.cell? ⟨wr.heap.size, 6, none⟩ = some (.int .i64 of) ∧ w'.cell? ⟨wr.heap.size, 7, none⟩ = some (.slice AF nF cF) ∧ w'.cell? ⟨w.heap.size, 0, none⟩ = some (.int .i64 n) ∧ w'.cell? ⟨w.heap.size, 1, none⟩ = some (.slice A1 n1 c1) ∧ w'.cell? ⟨w.heap.size, 2, none⟩ = some (.bool nl) ∧ w'.cell? ⟨w.heap.size, 3, none⟩ = some (.slice A2 n2 c2) ∧ w'.cell? ⟨w.heap.size, 4, none⟩ = some (.slice A3 n3 c3))
          (first | exact HS1.out | exact HS2.out | exact HS3.out | exact HS4.out)
          (first
            | (refine step_app_ocg rfl _ _ 23 rfl Try.underlying23 hi hz0 hz1 hz2 rfl HO3.out rfl HV3.out HB3.out HLE.out ?_; intro v5 w5 ho5 hw5 hg5; have HO5 := Lib.hid ho5; have HW5 := Lib.hid hw5; have HS4 := Lib.hid (keep13 (hg5.block _ HZ3.out (own_ne HO.out (Nat.le_refl _))) (hg5.block _ HZ37.out (own_ne_low HO.out (Nat.lt_succ_self _))) HS3.out); clear ho5 hw5 hg5)
            | (go_at_call 56; refine cA.out.mono ?_; rintro e2 w2 ⟨cs2, rfl, ht2, hw2⟩; have HT2 := Lib.hid ht2; have HW2 := Lib.hid (((Only.refl (fun _ => False) w1).drew).trans hw2); have HS2 := Lib.hid (keep13 (HW2.out.block _ HZ.out id) (HW2.out.block _ HZ7.out id) HS1.out); clear ht2 hw2; dsimp only)
            | (go_at_call 55; refine (HC.out w2 B _ ver cs2 (Nat.le_trans HB1.out HW2.out.size) (HFd.out.keep ((O1.out.trans HW2.out).kept0 (Nat.le_trans HB.out HW.out.size))) HT2.out HLF.out).mono ?_; rintro e3 w3 ⟨v3, rfl, ho3, hw3⟩; have HW3 := Lib.hid hw3; have HV3 := Lib.hid ho3.oc; have HO3 := Lib.hid (HO.out.keep (O1.out.trans (HW2.out.trans hw3))); have HB3 : Hid (w.heap.size + 1 ≤ w3.heap.size) := Lib.hid (Nat.le_trans HZ7.out (Nat.le_trans HW2.out.size hw3.size)); have HZ3 := Lib.hid (Nat.lt_of_lt_of_le HZ.out (Nat.le_trans HW2.out.size hw3.size)); have HZ37 := Lib.hid (Nat.lt_of_lt_of_le HZ7.out (Nat.le_trans HW2.out.size hw3.size)); have HS3 := Lib.hid (keep13 (hw3.block _ (Nat.lt_of_lt_of_le HZ.out HW2.out.size) id) (hw3.block _ (Nat.lt_of_lt_of_le HZ7.out HW2.out.size) id) HS2.out); clear ho3 hw3; dsimp only))
        have HR : Hid (Own 5 (w.heap.size + 1) w5 v5 (toU fs ver false t.l (k + 1)) ∧ Only (fun _ => False) w w5 ∧ TBox w.heap.size w5 (.int .i64 n) (.slice A1 n1 c1) (.bool nl) (.slice A2 n2 c2) (.slice A3 n3 c3)) := Lib.hid ⟨by rw [HSt.out, ← HX.out]; exact HO5.out,
          (HW.out.trans (O1.out.trans (HW2.out.trans HW3.out))).ownAt HW5.out (Nat.le_succ _), Nat.lt_of_lt_of_le HZ37.out HW5.out.size, by obtain ⟨_, _, _, _, _, _, _, _, h⟩ := HS4.out; exact h⟩
        clear HO5 HW5 HW2 HW3 HS1 HS2 HS3 HS4 HV3 HO3 HB3 HZ3 HZ37 HT2 HZ HZ7 HB1 cA HX HLF HLE O1 HW1 HO HW HBX HSt HFd HC HLe HOne HbB cH HOR
        go_wp2_with fail
        go_roundw
        case rel => exact ⟨k + 1, hlt, by go_num, HR.out⟩
        case measure => simp [intOf]; omega
    · have hk2 : k = fs.length := by omega
      subst hk2
      have hlt' : ¬ ((fs.length : Int) < (fs.length : Int)) := by omega
      go_wp2_with fail
      go_ret
      exact ⟨_, rfl, HO.out.lower (Nat.le_succ _), HW.out⟩

set_option maxHeartbeats 4000000 in
set_option maxRecDepth 100000 in
theorem part_us_true (fs : List Fld) (ver : Int) (t : Tr) (hU : UsP true fs ver t) (w : World) (B : Nat) (v : Value) (ts : List Value) (hB : B ≤ w.heap.size) (hFs : FldsC w B fs v) (hT : TrC w B t ts) :
    Calls Try.prog 32 #[v, .int .i64 ver, .bool true, .agg ts.toArray] w (SpP 5 w (toU fs ver true t.l fs.length ++ uvEnc 0)) := by
  have hlen := hU.len
  obtain ⟨i0, hi, hz0, hz1, hz2⟩ := info_u8
  obtain ⟨ff, hsl, _⟩ := id hFs
  obtain ⟨A, c, rfl, _⟩ := hsl.sl
  obtain ⟨n, A1, n1, c1, nl, A2, n2, c2, A3, n3, c3, rfl⟩ := hT.form
  have HB := Lib.hid hB
  have HFs := Lib.hid hFs
  have HT := Lib.hid hT
  have HU := Lib.hid hU
  have ht0 : TBox w.heap.size (w.alloc (.cells #[.int .i64 n, .slice A1 n1 c1, .bool nl, .slice A2 n2 c2, .slice A3 n3 c3] 48)) (.int .i64 n) (.slice A1 n1 c1) (.bool nl) (.slice A2 n2 c2) (.slice A3 n3 c3) := by
    refine ⟨by simp, ?_, ?_, ?_, ?_, ?_⟩ <;> simp [World.cell?_alloc_new]
  have HT0 := Lib.hid ht0
  clear hB hFs hT hU hsl ht0
  go_enter Try.func32, Try.ntmps32
  go_wp2_with fail
  go_loopw [9, 23] (fun v i wr => ∃ k : Nat, k ≤ fs.length ∧ i = .int .i64 k ∧ Own 5 (w.heap.size + 1) wr v (toU fs ver true t.l k) ∧ Only (fun _ => False) w wr ∧ TBox w.heap.size wr (.int .i64 n) (.slice A1 n1 c1) (.bool nl) (.slice A2 n2 c2) (.slice A3 n3 c3))
    (fun _ i _ => fs.length - (intOf i).toNat)
  case atStart => exact ⟨0, Nat.zero_le _, rfl, World.ownsRow_nil _ _ _ _, (Only.refl _ _).alloc _, HT0.out⟩
  case round =>
    obtain ⟨k, hk, rfl, hown, honly, hbox⟩ := hrel
    have HO := Lib.hid hown
    have HW := Lib.hid honly
    have HBX := Lib.hid hbox
    clear hown honly HT0
    by_cases hlt : k < fs.length
    · obtain ⟨b, o, AF, nF, cF, rfl, _, hbB, hf, e0, e1, e2, e3, e4, e5, e6, e7⟩ := (HFs.out.keep (HW.out.kept0 HB.out)).at_ hlt
      obtain ⟨hws, y0, y1, y2, y3, y4⟩ := hbox
      have hor := HU.out.f k hlt
      have hstep := toU_step (ver := ver) (flex := true) (l := t.l) hlt
      have hle := HU.out.b (k + 1) hlt
      rw [hstep, List.length_append] at hle
      have hone : oneU fs[k] ver true (trAt t.l k) = if fs[k].tag < 0 then (if hasV fs[k].fr fs[k].to ver then fieldB fs[k] ver true (trAt t.l k) else []) else [] := rfl
      generalize fs[k] = f at hf e0 e1 e2 e3 e4 e5 e6 e7 hor hstep hle hone
      have HSt := Lib.hid hstep
      have HFd := Lib.hid hf
      have HLe := Lib.hid hle
      have HOR := Lib.hid hor
      have hone2 := hone
      have HOne := Lib.hid hone
      have HbB := Lib.hid hbB
      have hb' : b < wr.heap.size := by have := HB.out; have := HW.out.size; omega
      have hlt' : (k : Int) < (fs.length : Int) := by omega
      have hws' : w.heap.size + 1 ≤ wr.heap.size := hws
      have hw64 : wrap64 ((k : Int) + 1) = (k : Int) + 1 := by unfold wrap64; omega
      have cH := Lib.hid (fun w' (hw : Only (fun _ => False) wr w') => sp_has w' B f _ ver (hf.keep (hw.kept0 (Nat.le_trans HB.out HW.out.size))))
      clear hstep hf hone hle hbB hor
      generalize f.kind = kind at HFd e0 e1 e2 e3 e4 e5 e6 e7 cH
      generalize f.nu = nu at HFd e0 e1 e2 e3 e4 e5 e6 e7 cH
      generalize f.df = df at HFd e0 e1 e2 e3 e4 e5 e6 e7 cH
      generalize f.of = of at HFd e0 e1 e2 e3 e4 e5 e6 e7 cH
      generalize htag : f.tag = tag at HFd e0 e1 e2 e3 e4 e5 e6 e7 cH
      by_cases htg : tag < 0
      rotate_left
      · have tt : decide (tag < 0) = false := by simpa using htg
        have HHT := Lib.hid htag
        have HHG := Lib.hid htg
        clear htag htg
        generalize f.fr = fr at HFd e0 e1 e2 e3 e4 e5 e6 e7 cH
        generalize f.to = to at HFd e0 e1 e2 e3 e4 e5 e6 e7 cH
        go_wp2_with fail
        go_roundw
        case rel =>
          have O1 := (Only.refl (fun _ => False) wr).alloc (.cells #[.int .i64 kind, .int .i64 fr, .int .i64 to, .int .i64 nu, .int .i64 tag, .int .i64 df, .int .i64 of, .slice AF nF cF] 74)
          refine ⟨k + 1, hlt, by go_num, ?_, HW.out.trans O1, HBX.out.keep (b0 := w.heap.size + 1) O1.lift (Nat.lt_succ_self _)⟩
          rw [HSt.out, HOne.out, if_neg (by rw [HHT.out]; exact HHG.out)]
          simpa using HO.out.keep O1
        case measure => simp [intOf]; omega
      have tt : decide (tag < 0) = true := by simpa using htg
      have hFT : FieldT true f (trAt t.l k) := by
        rcases HOR.out with h | h
        · exact h.2
        · have := h.1; omega
      have HC := Lib.hid hFT
      rw [if_pos (by rw [htag]; exact htg)] at hone2
      have HOne := Lib.hid hone2
      clear htag htg hFT hone2
      cases hhv : hasV f.fr f.to ver
      · rw [hhv] at cH
        generalize f.fr = fr at HFd e0 e1 e2 e3 e4 e5 e6 e7 cH
        generalize f.to = to at HFd e0 e1 e2 e3 e4 e5 e6 e7 cH
        go_wp2_with (go_at_call 54; refine (cH.out _ ?_).mono ?_; (exact (Only.refl _ _).alloc _); rintro e1 w1 ⟨rfl, hw1⟩; have HW1 := Lib.hid hw1; clear hw1)
        go_roundw
        case rel =>
          have O1 := ((Only.refl (fun _ => False) wr).alloc _).trans HW1.out
          refine ⟨k + 1, hlt, by go_num, ?_, HW.out.trans O1, HBX.out.keep (b0 := w.heap.size + 1) O1.lift (Nat.lt_succ_self _)⟩
          rw [HSt.out, HOne.out, hhv]
          simpa using HO.out.keep O1
        case measure => simp [intOf]; omega
      · rw [hhv] at cH
        have HH := Lib.hid hhv
        clear hhv
        generalize f.fr = fr at HFd e0 e1 e2 e3 e4 e5 e6 e7 cH
        generalize f.to = to at HFd e0 e1 e2 e3 e4 e5 e6 e7 cH
        go_wp2_with (go_at_call 54; refine (cH.out _ ?_).mono ?_; (exact (Only.refl _ _).alloc _); rintro e1 w1 ⟨rfl, hw1⟩; have HW1 := Lib.hid hw1; clear hw1)
        have O1 := Lib.hid (((Only.refl (fun _ => False) wr).alloc _).trans HW1.out)
        have HS1 := Lib.hid (And.intro (boxN HW1.out 0 rfl) (And.intro (boxN HW1.out 1 rfl) (And.intro (boxN HW1.out 2 rfl) (And.intro (boxN HW1.out 3 rfl) (And.intro (boxN HW1.out 4 rfl) (And.intro (boxN HW1.out 5 rfl) (And.intro (boxN HW1.out 6 rfl) (And.intro (boxN HW1.out 7 rfl) (HBX.out.keep (b0 := w.heap.size + 1) O1.out.lift (Nat.lt_succ_self _)).2))))))))
        have hz1' : wr.heap.size < w1.heap.size := by have := HW1.out.size; simp at this; omega
        have HZ := Lib.hid hz1'
        have HZ7 : Hid (w.heap.size < w1.heap.size) := Lib.hid (by omega)
        have HB1 : Hid (B ≤ w1.heap.size) := Lib.hid (by have := HB.out; omega)
        have cA := Lib.hid (sp_at w1.drew B t _ k HB1.out (TrC.keep (w := w) (w' := w1.drew) ((HW.out.trans O1.out).drew.kept0 HB.out) HT.out))
        have HX : Hid (fieldB f ver true (trAt t.l k) = oneU f ver true (trAt t.l k)) := Lib.hid (by rw [HOne.out, HH.out]; rfl)
        have HLF : Hid ((fieldB f ver true (trAt t.l k)).length + 16 ≤ lim2) := Lib.hid (by rw [HX.out]; have := HLe.out; unfold lim2; omega)
        have HLE : Hid ((toU fs ver true t.l k).length + (fieldB f ver true (trAt t.l k)).length ≤ lim2) := Lib.hid (by rw [HX.out]; have := HLe.out; unfold lim2; omega)
        clear hz1' e0 e1 e2 e3 e4 e5 e6 e7 y0 y1 y2 y3 y4
        go_region_held3 (fun w' => w'.cell? ⟨wr.heap.size, 0, none⟩ = some (.int .i64 kind) ∧ w'.cell? ⟨wr.heap.size, 1, none⟩ = some (.int .i64 fr) ∧ w'.cell? ⟨wr.heap.size, 2, none⟩ = some (.int .i64 to) ∧ w'.cell? ⟨wr.heap.size, 3, none⟩ = some (.int .i64 nu) ∧ w'.cell? ⟨wr.heap.size, 4, none⟩ = some (.int .i64 tag) ∧ w'.cell? ⟨wr.heap.size, 5, none⟩ = some (.int .i64 df) ∧ w'.cell? ⟨wr.heap.size, 6, none⟩ = some (.int .i64 of) ∧ w'.cell? ⟨wr.heap.size, 7, none⟩ = some (.slice AF nF cF) ∧ w'.cell? ⟨w.heap.size, 0, none⟩ = some (.int .i64 n) ∧ w'.cell? ⟨w.heap.size, 1, none⟩ = some (.slice A1 n1 c1) ∧ w'.cell? ⟨w.heap.size, 2, none⟩ = some (.bool nl) ∧ w'.cell? ⟨w.heap.size, 3, none⟩ = some (.slice A2 n2 c2) ∧ w'.cell? ⟨w.heap.size, 4, none⟩ = some (.slice A3 n3 c3))
          (first | exact HS1.out | exact HS2.out | exact HS3.out | exact HS4.out)
          (first
            | (refine step_app_ocg rfl _ _ 23 rfl Try.underlying23 hi hz0 hz1 hz2 rfl HO3.out rfl HV3.out HB3.out HLE.out ?_; intro v5 w5 ho5 hw5 hg5; have HO5 := Lib.hid ho5; have HW5 := Lib.hid hw5; have HS4 := Lib.hid (keep13 (hg5.block _ HZ3.out (own_ne HO.out (Nat.le_refl _))) (hg5.block _ HZ37.out (own_ne_low HO.out (Nat.lt_succ_self _))) HS3.out); clear ho5 hw5 hg5)
            | (go_at_call 56; refine cA.out.mono ?_; rintro e2 w2 ⟨cs2, rfl, ht2, hw2⟩; have HT2 := Lib.hid ht2; have HW2 := Lib.hid (((Only.refl (fun _ => False) w1).drew).trans hw2); have HS2 := Lib.hid (keep13 (HW2.out.block _ HZ.out id) (HW2.out.block _ HZ7.out id) HS1.out); clear ht2 hw2; dsimp only)
            | (go_at_call 55; refine (HC.out w2 B _ ver cs2 (Nat.le_trans HB1.out HW2.out.size) (HFd.out.keep ((O1.out.trans HW2.out).kept0 (Nat.le_trans HB.out HW.out.size))) HT2.out HLF.out).mono ?_; rintro e3 w3 ⟨v3, rfl, ho3, hw3⟩; have HW3 := Lib.hid hw3; have HV3 := Lib.hid ho3.oc; have HO3 := Lib.hid (HO.out.keep (O1.out.trans (HW2.out.trans hw3))); have HB3 : Hid (w.heap.size + 1 ≤ w3.heap.size) := Lib.hid (Nat.le_trans HZ7.out (Nat.le_trans HW2.out.size hw3.size)); have HZ3 := Lib.hid (Nat.lt_of_lt_of_le HZ.out (Nat.le_trans HW2.out.size hw3.size)); have HZ37 := Lib.hid (Nat.lt_of_lt_of_le HZ7.out (Nat.le_trans HW2.out.size hw3.size)); have HS3 := Lib.hid (keep13 (hw3.block _ (Nat.lt_of_lt_of_le HZ.out HW2.out.size) id) (hw3.block _ (Nat.lt_of_lt_of_le HZ7.out HW2.out.size) id) HS2.out); clear ho3 hw3; dsimp only))
        have HR : Hid (Own 5 (w.heap.size + 1) w5 v5 (toU fs ver true t.l (k + 1)) ∧ Only (fun _ => False) w w5 ∧ TBox w.heap.size w5 (.int .i64 n) (.slice A1 n1 c1) (.bool nl) (.slice A2 n2 c2) (.slice A3 n3 c3)) := Lib.hid ⟨by rw [HSt.out, ← HX.out]; exact HO5.out,
          (HW.out.trans (O1.out.trans (HW2.out.trans HW3.out))).ownAt HW5.out (Nat.le_succ _), Nat.lt_of_lt_of_le HZ37.out HW5.out.size, by obtain ⟨_, _, _, _, _, _, _, _, h⟩ := HS4.out; exact h⟩
        clear HO5 HW5 HW2 HW3 HS1 HS2 HS3 HS4 HV3 HO3 HB3 HZ3 HZ37 HT2 HZ HZ7 HB1 cA HX HLF HLE O1 HW1 HO HW HBX HSt HFd HC HLe HOne HbB cH HOR
        go_wp2_with fail
        go_roundw
        case rel => exact ⟨k + 1, hlt, by go_num, HR.out⟩
        case measure => simp [intOf]; omega
    · have hk2 : k = fs.length := by omega
      subst hk2
      have hlt' : ¬ ((fs.length : Int) < (fs.length : Int)) := by omega
      have cK := Lib.hid (sp_knownN wr B fs _ (Nat.le_trans HB.out HW.out.size) (HFs.out.keep (HW.out.kept0 HB.out)) HU.out.tag hlen)
      have hTL : Hid ((toU fs ver true t.l fs.length).length ≤ 1000) := Lib.hid (HU.out.b _ (Nat.le_refl _))
      clear hlt'
      go_wp2_with (go_at_call 57; refine cK.out.mono ?_; rintro e1 w1 ⟨N, rfl, hN, hw1⟩; have HW1 := Lib.hid hw1; have hNw : wrap64 (N : Int) = (N : Int) := by unfold wrap64; omega
                   clear hw1 cK)
      go_loopw [10, 11, 52] (fun q m i wl => q = .slice none 0 0 ∧ m = .int .i64 0 ∧ (∃ k2 : Nat, k2 ≤ N ∧ i = .int .i64 k2) ∧ Only (fun _ => False) w1 wl) (fun _ _ i _ => N - (intOf i).toNat)
      case atStart => exact ⟨rfl, rfl, ⟨0, Nat.zero_le _, rfl⟩, Only.refl _ _⟩
      case round =>
        obtain ⟨rfl, rfl, ⟨k2, hk2, rfl⟩, hwl⟩ := hrel
        have HWL := Lib.hid hwl
        clear hwl
        have e2w : wrap64 ((k2 : Int) + 1) = (k2 : Int) + 1 := by unfold wrap64; omega
        by_cases hlt2 : k2 < N
        · have hlt2' : (k2 : Int) < (N : Int) := by omega
          go_wp2_with fail
          go_loopw [10, 11, 57] (fun q m i w3 => q = .slice none 0 0 ∧ m = .int .i64 0 ∧ (∃ k : Nat, k ≤ fs.length ∧ i = .int .i64 k) ∧ Only (fun _ => False) w1 w3) (fun _ _ i _ => fs.length - (intOf i).toNat)
          case atStart => exact ⟨rfl, rfl, ⟨0, Nat.zero_le _, rfl⟩, HWL.out⟩
          case round =>
            obtain ⟨rfl, rfl, ⟨k, hk, rfl⟩, hw3⟩ := hrel
            have HW3 := Lib.hid hw3
            clear hw3
            have e3w : wrap64 ((k : Int) + 1) = (k : Int) + 1 := by unfold wrap64; omega
            by_cases hlt : k < fs.length
            · have HOW := Lib.hid (HW.out.trans (HW1.out.trans HW3.out))
              obtain ⟨b, o, AF, nF, cF, rfl, _, hbB, hf, e0, e1, e2, e3, e4, e5, e6, e7⟩ := (HFs.out.keep (HOW.out.kept0 HB.out)).at_ hlt
              have hor := HU.out.f k hlt
              generalize fs[k] = f at hf e0 e1 e2 e3 e4 e5 e6 e7 hor
              have HFd := Lib.hid hf
              have HOR := Lib.hid hor
              have hlt' : (k : Int) < (fs.length : Int) := by omega
              clear hf hor hbB
              generalize hkd : f.kind = kind at HFd e0 e1 e2 e3 e4 e5 e6 e7
              generalize f.fr = fr at HFd e0 e1 e2 e3 e4 e5 e6 e7
              generalize f.to = to at HFd e0 e1 e2 e3 e4 e5 e6 e7
              generalize f.nu = nu at HFd e0 e1 e2 e3 e4 e5 e6 e7
              generalize htag : f.tag = tag at HFd e0 e1 e2 e3 e4 e5 e6 e7
              generalize f.df = df at HFd e0 e1 e2 e3 e4 e5 e6 e7
              generalize f.of = of at HFd e0 e1 e2 e3 e4 e5 e6 e7
              have HTAG := Lib.hid htag
              have HKD := Lib.hid hkd
              clear htag hkd
              have HBX3 := Lib.hid (HBX.out.keep (b0 := w.heap.size + 1) (HW1.out.trans HW3.out).lift (Nat.lt_succ_self _))
              go_wp2_with fail
              obtain ⟨W4, hW4⟩ : ∃ W4, wr.alloc (.cells #[.int .i64 kind, .int .i64 fr, .int .i64 to, .int .i64 nu, .int .i64 tag, .int .i64 df, .int .i64 of, .slice AF nF cF] 74) = W4 := ⟨_, rfl⟩
              have O4 := Lib.hid (show Only (fun _ => False) wr W4 by rw [← hW4]; exact (Only.refl _ _).alloc _)
              have HS1 := Lib.hid (show ((fun w' => w'.cell? ⟨wr.heap.size, 0, none⟩ = some (.int .i64 kind) ∧ w'.cell? ⟨wr.heap.size, 1, none⟩ = some (.int .i64 fr) ∧ w'.cell? ⟨wr.heap.size, 2, none⟩ = some (.int .i64 to) ∧ w'.cell? ⟨wr.heap.size, 3, none⟩ = some (.int .i64 nu) ∧ w'.cell? ⟨wr.heap.size, 4, none⟩ = some (.int .i64 tag) ∧ w'.cell? ⟨wr.heap.size, 5, none⟩ = some (.int .i64 df) ∧ w'.cell? ⟨wr.heap.size, 6, none⟩ = some (.int .i64 of) ∧ w'.cell? ⟨wr.heap.size, 7, none⟩ = some (.slice AF nF cF) ∧ w'.cell? ⟨w.heap.size, 0, none⟩ = some (.int .i64 n) ∧ w'.cell? ⟨w.heap.size, 1, none⟩ = some (.slice A1 n1 c1) ∧ w'.cell? ⟨w.heap.size, 2, none⟩ = some (.bool nl) ∧ w'.cell? ⟨w.heap.size, 3, none⟩ = some (.slice A2 n2 c2) ∧ w'.cell? ⟨w.heap.size, 4, none⟩ = some (.slice A3 n3 c3))) W4 from by rw [← hW4]; exact And.intro (boxN (Only.refl _ _) 0 rfl) (And.intro (boxN (Only.refl _ _) 1 rfl) (And.intro (boxN (Only.refl _ _) 2 rfl) (And.intro (boxN (Only.refl _ _) 3 rfl) (And.intro (boxN (Only.refl _ _) 4 rfl) (And.intro (boxN (Only.refl _ _) 5 rfl) (And.intro (boxN (Only.refl _ _) 6 rfl) (And.intro (boxN (Only.refl _ _) 7 rfl) (HBX3.out.keep (b0 := w.heap.size + 1) ((Only.refl _ wr).alloc _ : Only (fun _ => False) wr _).lift (Nat.lt_succ_self _)).2))))))))
              have HSD := Lib.hid (show ((fun w' => w'.cell? ⟨wr.heap.size, 0, none⟩ = some (.int .i64 kind) ∧ w'.cell? ⟨wr.heap.size, 1, none⟩ = some (.int .i64 fr) ∧ w'.cell? ⟨wr.heap.size, 2, none⟩ = some (.int .i64 to) ∧ w'.cell? ⟨wr.heap.size, 3, none⟩ = some (.int .i64 nu) ∧ w'.cell? ⟨wr.heap.size, 4, none⟩ = some (.int .i64 tag) ∧ w'.cell? ⟨wr.heap.size, 5, none⟩ = some (.int .i64 df) ∧ w'.cell? ⟨wr.heap.size, 6, none⟩ = some (.int .i64 of) ∧ w'.cell? ⟨wr.heap.size, 7, none⟩ = some (.slice AF nF cF) ∧ w'.cell? ⟨w.heap.size, 0, none⟩ = some (.int .i64 n) ∧ w'.cell? ⟨w.heap.size, 1, none⟩ = some (.slice A1 n1 c1) ∧ w'.cell? ⟨w.heap.size, 2, none⟩ = some (.bool nl) ∧ w'.cell? ⟨w.heap.size, 3, none⟩ = some (.slice A2 n2 c2) ∧ w'.cell? ⟨w.heap.size, 4, none⟩ = some (.slice A3 n3 c3))) W4.drew from HS1.out)
              have HZ : Hid (wr.heap.size < W4.heap.size) := Lib.hid (by rw [← hW4]; simp)
              have HZ7 : Hid (w.heap.size < W4.heap.size) := Lib.hid (Nat.lt_trans HBX3.out.1 HZ.out)
              rw [hW4]
              clear hW4 e0 e1 e2 e3 e4 e5 e6 e7
              by_cases hteq : tag = (k2 : Int)
              · subst hteq
                have hfin : f.kind = 11 ∧ (trAt t.l k).l = [] := by
                  rcases HOR.out with h | h
                  · have h1 := h.1; have h2 := HTAG.out; omega
                  · exact ⟨h.2.2.1, h.2.2.2⟩
                have HFIN := Lib.hid hfin
                have HBW : Hid (B ≤ wr.heap.size) := Lib.hid (Nat.le_trans HB.out HOW.out.size)
                have cA := Lib.hid (sp_at W4.drew B t _ k (Nat.le_trans HBW.out O4.out.size) (TrC.keep (w := w) (w' := W4.drew) ((HOW.out.trans O4.out).drew.kept0 HB.out) HT.out))
                clear hfin
                obtain ⟨c0, c1', c2', c3', c4, c5, c6, c7, d0, d1, d2, d3, d4⟩ := HS1.out
                go_region_with (first
                  | (go_at_call 56; refine cA.out.mono ?_; rintro e5 w5 ⟨cs5, rfl, ht5, hw5⟩; have HT5 := Lib.hid ht5; have HW5 := Lib.hid (((Only.refl (fun _ => False) W4).drew).trans hw5); obtain ⟨f0, f1, f2, f3, f4, f5, f6, f7, j0, j1, j2, j3, j4⟩ := keep13 (HW5.out.block _ HZ.out id) (HW5.out.block _ HZ7.out id) HS1.out; clear ht5 hw5; dsimp only)
                  | (go_at_call 58; refine (sp_usual0 w5 B f _ (trAt t.l k) cs5 HFIN.out.1 HFIN.out.2 (HFd.out.keep ((O4.out.trans HW5.out).kept0 HBW.out)) HT5.out).mono ?_; rintro e6 w6 ⟨rfl, hw6⟩; have HW6 := Lib.hid (HW5.out.trans hw6); obtain ⟨r0, r1, r2, r3, r4, r5, r6, r7, q0, q1, q2, q3, q4⟩ := keep13 (HW6.out.block _ HZ.out id) (HW6.out.block _ HZ7.out id) HS1.out; clear hw6)
                  | fail)
                all_goals
                  have HR : Hid (Only (fun _ => False) w1 w6) := Lib.hid (HW3.out.trans (O4.out.trans HW6.out))
                  go_wp2_with fail
                  go_roundw
                  case rel => exact ⟨rfl, rfl, ⟨k + 1, hlt, rfl⟩, HR.out⟩
                  case measure => simp [intOf]; omega
              · have hteq' : (tag == (k2 : Int)) = false := by simpa using hteq
                have hc4 : W4.cell? ⟨wr.heap.size, 4, none⟩ = some (.int .i64 tag) := HS1.out.2.2.2.2.1
                go_wp2_with fail
                go_quiet (fail)
                go_wp2_with fail
                go_roundw
                case rel => exact ⟨rfl, rfl, ⟨k + 1, hlt, rfl⟩, (HW3.out.trans O4.out).drewN⟩
                case measure => simp [intOf]; omega
            · have hk3 : k = fs.length := by omega
              subst hk3
              have hlt' : ¬ ((fs.length : Int) < (fs.length : Int)) := by omega
              go_wp2_with fail
              go_roundw
              case rel => exact ⟨rfl, rfl, ⟨k2 + 1, hlt2, rfl⟩, HW3.out⟩
              case measure => simp [intOf]; omega
        · have hk3 : k2 = N := by omega
          subst hk3
          have hlt' : ¬ ((k2 : Int) < (k2 : Int)) := by omega
          have HOW := Lib.hid (HW.out.trans (HW1.out.trans HWL.out))
          have HBX3 := Lib.hid (HBX.out.keep (b0 := w.heap.size + 1) (HW1.out.trans HWL.out).lift (Nat.lt_succ_self _))
          have HO3 := Lib.hid (HO.out.keep (HW1.out.trans HWL.out))
          have hn3 : n3 = 0 := by
            obtain ⟨fU, hsU, _⟩ := trc_tgs HT.out
            obtain ⟨AV, cV, hv, _⟩ := hsU.sl
            rw [HU.out.u] at hv
            injection hv
          subst hn3
          have cU := Lib.hid (sp_unknown0 wr B fs _ (Nat.le_trans HB.out HOW.out.size) (HFs.out.keep (HOW.out.kept0 HB.out)) HU.out.tag hlen A3 c3)
          have y4 : wr.cell? ⟨w.heap.size, 4, none⟩ = some (.slice A3 0 c3) := HBX3.out.2.2.2.2.2
          have HS3 : Hid (w.heap.size + 1 ≤ wr.heap.size) := Lib.hid HBX3.out.1
          clear HBX HO hbox
          go_wp2_with (first
            | (go_at_call 59; refine cU.out.mono ?_; rintro e2 w2 ⟨rfl, hw2⟩; have O2 := Lib.hid (HOW.out.trans hw2); have HO2 := Lib.hid (HO3.out.keep hw2); have HS4 := Lib.hid (Nat.le_trans HS3.out hw2.size); clear hw2 cU)
            | fail)
          refine wp_loop_once ?_
          go_wp2_with (first
            | (go_at_call 9; refine (sp_uvarint _ 0 (by decide)).mono ?_; rintro e4 w4 ⟨v4, rfl, ho4, hw4⟩; have HV4 := Lib.hid ho4.oc; have O4 := Lib.hid (O2.out.trans hw4); have HO4 := Lib.hid (HO2.out.keep hw4); have HS5 := Lib.hid (Nat.le_trans HS4.out hw4.size); clear ho4 hw4)
            | (at_builtin; refine wp_app_oc rfl (.tmp 125) (.tmp 128) 23 rfl Try.underlying23 hi hz0 hz1 hz2 rfl HO4.out rfl HV4.out HS5.out ?_ ?_; rotate_left; intro v5 w5 ho5 hw5; have HO5 := Lib.hid ho5; have O5 := Lib.hid (O4.out.own hw5 (Nat.le_succ _)); have HS6 := Lib.hid (Nat.le_trans HS5.out hw5.size); clear ho5 hw5)
            | (at_builtin; refine wp_app_oc rfl (.tmp 129) (.tmp 130) 23 rfl Try.underlying23 hi hz0 hz1 hz2 rfl HO5.out (s := []) rfl (Oc.nil w5 0) HS6.out ?_ ?_; rotate_left; intro v6 w6 ho6 hw6; have HO6 := Lib.hid ho6; have O6 := Lib.hid (O5.out.own hw6 (Nat.le_succ _)); clear ho6 hw6)
            | fail)
          · go_ret
            exact ⟨v6, rfl, by have := HO6.out; rw [List.append_nil] at this; exact this.lower (Nat.le_succ _), O6.out⟩
          all_goals
            have h1 := hTL.out
            have h2 : (uvEnc 0).length = 1 := by decide
            unfold lim2
            simp only [List.length_append, List.length_nil, h2]
            omega

end Go.Proofs.Ythlfepgcjomhpaa.Kf
