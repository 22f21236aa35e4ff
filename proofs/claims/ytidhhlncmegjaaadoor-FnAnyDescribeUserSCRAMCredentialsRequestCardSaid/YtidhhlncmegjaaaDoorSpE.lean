/- What the reference writes of a part, at versions that are not flexible. -/
import Derived.Test.YtidhhlncmegjaaaDoorSpD
namespace Go.Proofs.YtidhhlncmegjaaaDoor.Kf
set_option linter.unusedVariables false
set_option linter.unusedSimpArgs false
open Go Go.RowKit

/-- What is written of the first k fields. -/
def oneB (f : Fld) (ver : Int) (flex : Bool) (t : Tr) : List UInt8 := if hasV f.fr f.to ver then fieldB f ver flex t else []
def toB (fs : List Fld) (ver : Int) (flex : Bool) (l : List Tr) : Nat → List UInt8
  | 0 => []
  | k + 1 => toB fs ver flex l k ++ (match fs[k]? with | some f => oneB f ver flex (trAt l k) | none => [])
theorem toB_cons (f : Fld) (fs : List Fld) (ver : Int) (flex : Bool) (l : List Tr) : ∀ k, toB (f :: fs) ver flex l (k + 1) = oneB f ver flex (l.headD tr0) ++ toB fs ver flex l.tail k := by
  intro k
  induction k with
  | zero =>
    have : trAt l 0 = l.headD tr0 := by cases l <;> rfl
    simp [toB, this]
  | succ k ih =>
    have e : trAt l (k + 1) = trAt l.tail k := by cases l <;> simp [trAt]
    rw [toB, ih, toB, List.append_assoc, e]
    rfl
theorem toB_all : ∀ (fs : List Fld) (ver : Int) (flex : Bool) (l : List Tr), toB fs ver flex l fs.length = fieldsB fs ver flex l := by
  intro fs
  induction fs with
  | nil => intro ver flex l; simp [toB, fieldsB]
  | cons f fs ih =>
    intro ver flex l
    rw [List.length_cons, toB_cons, ih, fieldsB]
    rfl
theorem toB_le (fs : List Fld) (ver : Int) (flex : Bool) (l : List Tr) : ∀ (k j : Nat), (toB fs ver flex l k).length ≤ (toB fs ver flex l (k + j)).length := by
  intro k j
  induction j with
  | zero => exact Nat.le_refl _
  | succ j ih => rw [← Nat.add_assoc, toB, List.length_append]; omega
theorem toB_step {fs : List Fld} {ver : Int} {flex : Bool} {l : List Tr} {k : Nat} (h : k < fs.length) : toB fs ver flex l (k + 1) = toB fs ver flex l k ++ oneB fs[k] ver flex (trAt l k) := by
  rw [toB, List.getElem?_eq_getElem h]

theorem FldsC.at_ {w : World} {B : Nat} {fs : List Fld} {A : Option Addr} {n c k : Nat} (h : FldsC w B fs (.slice A n c)) (hk : k < fs.length) :
    ∃ b o AF nF cF, A = some ⟨b, o, none⟩ ∧ n = fs.length ∧ b < B ∧ FldC w B fs[k] [.int .i64 fs[k].kind, .int .i64 fs[k].fr, .int .i64 fs[k].to, .int .i64 fs[k].nu, .int .i64 fs[k].tag, .int .i64 fs[k].df, .int .i64 fs[k].of, .slice AF nF cF] ∧
      (w.cell? ⟨b, o + k * 8, none⟩ = some (.int .i64 fs[k].kind) ∧ w.cell? ⟨b, o + k * 8 + 1, none⟩ = some (.int .i64 fs[k].fr) ∧ w.cell? ⟨b, o + k * 8 + 2, none⟩ = some (.int .i64 fs[k].to) ∧ w.cell? ⟨b, o + k * 8 + 3, none⟩ = some (.int .i64 fs[k].nu) ∧ w.cell? ⟨b, o + k * 8 + 4, none⟩ = some (.int .i64 fs[k].tag) ∧ w.cell? ⟨b, o + k * 8 + 5, none⟩ = some (.int .i64 fs[k].df) ∧ w.cell? ⟨b, o + k * 8 + 6, none⟩ = some (.int .i64 fs[k].of) ∧ w.cell? ⟨b, o + k * 8 + 7, none⟩ = some (.slice AF nF cF)) := by
  obtain ⟨f, hs, hT⟩ := h
  have hn : n = fs.length := by obtain ⟨A', c', e, _⟩ := hs.sl; injection e
  obtain ⟨b, o, c', e, hc, hb, hlen, hcell⟩ := hs.lit (by decide) hk
  injection e with e1 e2 e3
  have ht := hT k _ (List.getElem?_eq_getElem hk)
  generalize f k = cs at ht hcell
  obtain ⟨AF, nF, cF, rfl⟩ := ht.form
  exact ⟨b, o, AF, nF, cF, e1, hn, hb, ht, hcell 0 _ rfl, hcell 1 _ rfl, hcell 2 _ rfl, hcell 3 _ rfl, hcell 4 _ rfl, hcell 5 _ rfl, hcell 6 _ rfl, hcell 7 _ rfl⟩
theorem keep13 {wr w' : World} {p q : Nat} {x0 x1 x2 x3 x4 x5 x6 x7 y0 y1 y2 y3 y4 : Value} (hp' : w'.heap[p]? = wr.heap[p]?) (hq' : w'.heap[q]? = wr.heap[q]?)
    (h : wr.cell? ⟨p, 0, none⟩ = some x0 ∧ wr.cell? ⟨p, 1, none⟩ = some x1 ∧ wr.cell? ⟨p, 2, none⟩ = some x2 ∧ wr.cell? ⟨p, 3, none⟩ = some x3 ∧ wr.cell? ⟨p, 4, none⟩ = some x4 ∧ wr.cell? ⟨p, 5, none⟩ = some x5 ∧ wr.cell? ⟨p, 6, none⟩ = some x6 ∧ wr.cell? ⟨p, 7, none⟩ = some x7 ∧ wr.cell? ⟨q, 0, none⟩ = some y0 ∧ wr.cell? ⟨q, 1, none⟩ = some y1 ∧ wr.cell? ⟨q, 2, none⟩ = some y2 ∧ wr.cell? ⟨q, 3, none⟩ = some y3 ∧ wr.cell? ⟨q, 4, none⟩ = some y4) : w'.cell? ⟨p, 0, none⟩ = some x0 ∧ w'.cell? ⟨p, 1, none⟩ = some x1 ∧ w'.cell? ⟨p, 2, none⟩ = some x2 ∧ w'.cell? ⟨p, 3, none⟩ = some x3 ∧ w'.cell? ⟨p, 4, none⟩ = some x4 ∧ w'.cell? ⟨p, 5, none⟩ = some x5 ∧ w'.cell? ⟨p, 6, none⟩ = some x6 ∧ w'.cell? ⟨p, 7, none⟩ = some x7 ∧ w'.cell? ⟨q, 0, none⟩ = some y0 ∧ w'.cell? ⟨q, 1, none⟩ = some y1 ∧ w'.cell? ⟨q, 2, none⟩ = some y2 ∧ w'.cell? ⟨q, 3, none⟩ = some y3 ∧ w'.cell? ⟨q, 4, none⟩ = some y4 := by
  obtain ⟨h0, h1, h2, h3, h4, h5, h6, h7, k0, k1, k2, k3, k4⟩ := h
  exact ⟨(cell_kept (a := ⟨p, _, none⟩) hp').trans h0, (cell_kept (a := ⟨p, _, none⟩) hp').trans h1, (cell_kept (a := ⟨p, _, none⟩) hp').trans h2, (cell_kept (a := ⟨p, _, none⟩) hp').trans h3, (cell_kept (a := ⟨p, _, none⟩) hp').trans h4, (cell_kept (a := ⟨p, _, none⟩) hp').trans h5, (cell_kept (a := ⟨p, _, none⟩) hp').trans h6, (cell_kept (a := ⟨p, _, none⟩) hp').trans h7, (cell_kept (a := ⟨q, _, none⟩) hq').trans k0, (cell_kept (a := ⟨q, _, none⟩) hq').trans k1, (cell_kept (a := ⟨q, _, none⟩) hq').trans k2, (cell_kept (a := ⟨q, _, none⟩) hq').trans k3, (cell_kept (a := ⟨q, _, none⟩) hq').trans k4⟩
theorem boxN {w w1 : World} {A : Array Value} {e : Nat} (h : Only (fun _ => False) (w.alloc (.cells A e)) w1) (i : Nat) {v : Value} (hv : A[i]? = some v) : w1.cell? ⟨w.heap.size, i, none⟩ = some v := by
  have hb : w1.heap[w.heap.size]? = some (.cells A e) := by
    rw [h.block _ (by simp) id, heap_alloc_new]
  simp [World.cell?, hb, hv]
theorem own_ne {U base b : Nat} {w : World} {v : Value} {s : List UInt8} (h : Own U base w v s) (hb : w.heap.size ≤ b) : some b ≠ v.ownBlock := by
  intro e
  have := (World.ownsRow.lt h b e.symm).2
  omega
theorem own_ne_low {U base b : Nat} {w : World} {v : Value} {s : List UInt8} (h : Own U base w v s) (hb : b < base) : some b ≠ v.ownBlock := by
  intro e
  have := (World.ownsRow.lt h b e.symm).1
  omega
/-- The tree's own box. -/
def TBox (p : Nat) (w : World) (y0 y1 y2 y3 y4 : Value) : Prop := p < w.heap.size ∧ w.cell? ⟨p, 0, none⟩ = some y0 ∧ w.cell? ⟨p, 1, none⟩ = some y1 ∧ w.cell? ⟨p, 2, none⟩ = some y2 ∧ w.cell? ⟨p, 3, none⟩ = some y3 ∧ w.cell? ⟨p, 4, none⟩ = some y4
theorem TBox.keep {p b0 : Nat} {wr w' : World} {y0 y1 y2 y3 y4 : Value} (h : TBox p wr y0 y1 y2 y3 y4) (ho : Only (fun j => b0 ≤ j) wr w') (hp : p < b0) : TBox p w' y0 y1 y2 y3 y4 := by
  obtain ⟨hs, k0, k1, k2, k3, k4⟩ := h
  have hq' : w'.heap[p]? = wr.heap[p]? := ho.block _ hs (by omega)
  exact ⟨Nat.lt_of_lt_of_le hs ho.size, (cell_kept (a := ⟨p, _, none⟩) hq').trans k0, (cell_kept (a := ⟨p, _, none⟩) hq').trans k1, (cell_kept (a := ⟨p, _, none⟩) hq').trans k2, (cell_kept (a := ⟨p, _, none⟩) hq').trans k3, (cell_kept (a := ⟨p, _, none⟩) hq').trans k4⟩

/-- The numbers in a field's cells, as letters. -/
theorem one_eq {f : Fld} {fr to : Int} (h1 : f.fr = fr) (h2 : f.to = to) : True := trivial

set_option maxHeartbeats 1000000 in
set_option maxRecDepth 100000 in
theorem part_plain (fs : List Fld) (hlen : fs.length ≤ 65536) (htag : ∀ f ∈ fs, f.tag < 0) (hF : ∀ f ∈ fs, FieldC false f) : PartC false fs := by
  intro w B v ver t ts hB hFs hT hl
  have e : partB fs ver false t = toB fs ver false t.l fs.length := by simp [partB, toB_all]
  rw [e] at hl ⊢
  obtain ⟨i0, hi, hz0, hz1, hz2⟩ := info_u8
  obtain ⟨ff, hsl, _⟩ := id hFs
  obtain ⟨A, c, rfl, _⟩ := hsl.sl
  obtain ⟨n, A1, n1, c1, nl, A2, n2, c2, A3, n3, c3, rfl⟩ := hT.form
  have HB := Lib.hid hB
  have HFs := Lib.hid hFs
  have HT := Lib.hid hT
  have HL := Lib.hid hl
  have HTG := Lib.hid htag
  have HFC := Lib.hid hF
  have ht0 : TBox w.heap.size (w.alloc (.cells #[.int .i64 n, .slice A1 n1 c1, .bool nl, .slice A2 n2 c2, .slice A3 n3 c3] 26)) (.int .i64 n) (.slice A1 n1 c1) (.bool nl) (.slice A2 n2 c2) (.slice A3 n3 c3) := by
    refine ⟨by simp, ?_, ?_, ?_, ?_, ?_⟩ <;> simp [World.cell?_alloc_new]
  have HT0 := Lib.hid ht0
  clear hB hFs hT hl htag hF hsl e ht0
  go_enter Tryd.func46, Tryd.ntmps46
  go_wp2_with fail
  go_loopw [9, 23] (fun v i wr => ∃ k : Nat, k ≤ fs.length ∧ i = .int .i64 k ∧ Own 5 (w.heap.size + 1) wr v (toB fs ver false t.l k) ∧ Only (fun _ => False) w wr ∧ TBox w.heap.size wr (.int .i64 n) (.slice A1 n1 c1) (.bool nl) (.slice A2 n2 c2) (.slice A3 n3 c3))
    (fun _ i _ => fs.length - (intOf i).toNat)
  case atStart => exact ⟨0, Nat.zero_le _, rfl, World.ownsRow_nil _ _ _ _, (Only.refl _ _).alloc _, HT0.out⟩
  case round =>
    obtain ⟨k, hk, rfl, hown, honly, hbox⟩ := hrel
    have HO := Lib.hid hown
    have HW := Lib.hid honly
    have HBX := Lib.hid hbox
    clear hown honly HT0
    by_cases hlt : k < fs.length
    · obtain ⟨b, o, AF, nF, cF, rfl, _, hbB, hf, e0, e1, e2, e3, e4, e5, e6, e7⟩ := (HFs.out.keep (HW.out.kept0 HB.out)).at_ hlt
      obtain ⟨hws, y0, y1, y2, y3, y4⟩ := hbox
      have htg : fs[k].tag < 0 := HTG.out _ (List.getElem_mem hlt)
      have hstep := toB_step (ver := ver) (flex := false) (l := t.l) hlt
      have hle := toB_le fs ver false t.l (k + 1) (fs.length - (k + 1))
      rw [show k + 1 + (fs.length - (k + 1)) = fs.length by omega, hstep, List.length_append] at hle
      have hfc : FieldC false fs[k] := HFC.out _ (List.getElem_mem hlt)
      have hone : oneB fs[k] ver false (trAt t.l k) = if hasV fs[k].fr fs[k].to ver then fieldB fs[k] ver false (trAt t.l k) else [] := rfl
      generalize fs[k] = f at hf e0 e1 e2 e3 e4 e5 e6 e7 htg hstep hle hfc hone
      have HSt := Lib.hid hstep
      have HFd := Lib.hid hf
      have HC := Lib.hid hfc
      have HLe := Lib.hid (Nat.le_trans (Nat.add_le_add_right hle 16) HL.out)
      have HOne := Lib.hid hone
      have HbB := Lib.hid hbB
      have hb' : b < wr.heap.size := by have := HB.out; have := HW.out.size; omega
      have hlt' : (k : Int) < (fs.length : Int) := by omega
      have hws' : w.heap.size + 1 ≤ wr.heap.size := hws
      have hw64 : wrap64 ((k : Int) + 1) = (k : Int) + 1 := by unfold wrap64; omega
      have cH := Lib.hid (fun w' (hw : Only (fun _ => False) wr w') => sp_has w' B f _ ver (hf.keep (hw.kept0 (Nat.le_trans HB.out HW.out.size))))
      clear hstep hf hfc hone hle hbB
      generalize f.kind = kind at HFd e0 e1 e2 e3 e4 e5 e6 e7 htg cH
      generalize f.nu = nu at HFd e0 e1 e2 e3 e4 e5 e6 e7 htg cH
      generalize f.df = df at HFd e0 e1 e2 e3 e4 e5 e6 e7 htg cH
      generalize f.of = of at HFd e0 e1 e2 e3 e4 e5 e6 e7 htg cH
      generalize f.tag = tag at HFd e0 e1 e2 e3 e4 e5 e6 e7 htg cH
      have tt : decide (tag < 0) = true := by simpa using htg
      cases hhv : hasV f.fr f.to ver
      · rw [hhv] at cH
        generalize f.fr = fr at HFd e0 e1 e2 e3 e4 e5 e6 e7 cH
        generalize f.to = to at HFd e0 e1 e2 e3 e4 e5 e6 e7 cH
        go_wp2_with (go_at_call 95; refine (cH.out _ ?_).mono ?_; (exact (Only.refl _ _).alloc _); rintro e1 w1 ⟨rfl, hw1⟩; have HW1 := Lib.hid hw1; clear hw1)
        go_roundw
        case rel =>
          have O1 := ((Only.refl (fun _ => False) wr).alloc _).trans HW1.out
          refine ⟨k + 1, hlt, by go_num, ?_, HW.out.trans O1, HBX.out.keep (b0 := w.heap.size + 1) O1.lift (Nat.lt_succ_self _)⟩
          rw [HSt.out, HOne.out, hhv]
          simpa using HO.out.keep O1
        case measure => simp [intOf]; omega
      · rw [hhv] at cH
        have HH := Lib.hid hhv
        clear hhv
        generalize f.fr = fr at HFd e0 e1 e2 e3 e4 e5 e6 e7 cH
        generalize f.to = to at HFd e0 e1 e2 e3 e4 e5 e6 e7 cH
        go_wp2_with (go_at_call 95; refine (cH.out _ ?_).mono ?_; (exact (Only.refl _ _).alloc _); rintro e1 w1 ⟨rfl, hw1⟩; have HW1 := Lib.hid hw1; clear hw1)
        have O1 := Lib.hid (((Only.refl (fun _ => False) wr).alloc _).trans HW1.out)
        have HS1 := Lib.hid (And.intro (boxN HW1.out 0 rfl) (And.intro (boxN HW1.out 1 rfl) (And.intro (boxN HW1.out 2 rfl) (And.intro (boxN HW1.out 3 rfl) (And.intro (boxN HW1.out 4 rfl) (And.intro (boxN HW1.out 5 rfl) (And.intro (boxN HW1.out 6 rfl) (And.intro (boxN HW1.out 7 rfl) (HBX.out.keep (b0 := w.heap.size + 1) O1.out.lift (Nat.lt_succ_self _)).2))))))))
        have hz1' : wr.heap.size < w1.heap.size := by have := HW1.out.size; simp at this; omega
        have HZ := Lib.hid hz1'
        have HZ7 : Hid (w.heap.size < w1.heap.size) := Lib.hid (by omega)
        have HB1 : Hid (B ≤ w1.heap.size) := Lib.hid (by have := HB.out; omega)
        have cA := Lib.hid (sp_at w1.drew B t _ k HB1.out (TrC.keep (w := w) (w' := w1.drew) ((HW.out.trans O1.out).drew.kept0 HB.out) HT.out))
        have HX : Hid (fieldB f ver false (trAt t.l k) = oneB f ver false (trAt t.l k)) := Lib.hid (by rw [HOne.out, HH.out]; rfl)
        have HLF : Hid ((fieldB f ver false (trAt t.l k)).length + 16 ≤ lim2) := Lib.hid (by rw [HX.out]; have := HLe.out; omega)
        have HLE : Hid ((toB fs ver false t.l k).length + (fieldB f ver false (trAt t.l k)).length ≤ lim2) := Lib.hid (by rw [HX.out]; have := HLe.out; omega)
        clear hz1' e0 e1 e2 e3 e4 e5 e6 e7 y0 y1 y2 y3 y4
        go_region_held3 (fun w' => w'.cell? ⟨wr.heap.size, 0, none⟩ = some (.int .i64 kind) ∧ w'.cell? ⟨wr.heap.size, 1, none⟩ = some (.int .i64 fr) ∧ w'.cell? ⟨wr.heap.size, 2, none⟩ = some (.int .i64 to) ∧ w'.cell? ⟨wr.heap.size, 3, none⟩ = some (.int .i64 nu) ∧ w'.cell? ⟨wr.heap.size, 4, none⟩ = some (.int .i64 tag) ∧ w'.cell? ⟨wr.heap.size, 5, none⟩ = some (.int .i64 df) ∧ w'.cell? ⟨wr.heap.size, 6, none⟩ = some (.int .i64 of) ∧ w'.cell? ⟨wr.heap.size, 7, none⟩ = some (.slice AF nF cF) ∧ w'.cell? ⟨w.heap.size, 0, none⟩ = some (.int .i64 n) ∧ w'.cell? ⟨w.heap.size, 1, none⟩ = some (.slice A1 n1 c1) ∧ w'.cell? ⟨w.heap.size, 2, none⟩ = some (.bool nl) ∧ w'.cell? ⟨w.heap.size, 3, none⟩ = some (.slice A2 n2 c2) ∧ w'.cell? ⟨w.heap.size, 4, none⟩ = some (.slice A3 n3 c3))
          (first | exact HS1.out | exact HS2.out | exact HS3.out | exact HS4.out)
          (first
            | (refine step_app_ocg rfl _ _ 22 rfl Tryd.underlying22 hi hz0 hz1 hz2 rfl HO3.out rfl HV3.out HB3.out HLE.out ?_; intro v5 w5 ho5 hw5 hg5; have HO5 := Lib.hid ho5; have HW5 := Lib.hid hw5; have HS4 := Lib.hid (keep13 (hg5.block _ HZ3.out (own_ne HO.out (Nat.le_refl _))) (hg5.block _ HZ37.out (own_ne_low HO.out (Nat.lt_succ_self _))) HS3.out); clear ho5 hw5 hg5)
            | (go_at_call 97; refine cA.out.mono ?_; rintro e2 w2 ⟨cs2, rfl, ht2, hw2⟩; have HT2 := Lib.hid ht2; have HW2 := Lib.hid (((Only.refl (fun _ => False) w1).drew).trans hw2); have HS2 := Lib.hid (keep13 (HW2.out.block _ HZ.out id) (HW2.out.block _ HZ7.out id) HS1.out); clear ht2 hw2; dsimp only)
            | (go_at_call 96; refine (HC.out w2 B _ ver (trAt t.l k) cs2 (Nat.le_trans HB1.out HW2.out.size) (HFd.out.keep ((O1.out.trans HW2.out).kept0 (Nat.le_trans HB.out HW.out.size))) HT2.out HLF.out).mono ?_; rintro e3 w3 ⟨v3, rfl, ho3, hw3⟩; have HW3 := Lib.hid hw3; have HV3 := Lib.hid ho3.oc; have HO3 := Lib.hid (HO.out.keep (O1.out.trans (HW2.out.trans hw3))); have HB3 : Hid (w.heap.size + 1 ≤ w3.heap.size) := Lib.hid (Nat.le_trans HZ7.out (Nat.le_trans HW2.out.size hw3.size)); have HZ3 := Lib.hid (Nat.lt_of_lt_of_le HZ.out (Nat.le_trans HW2.out.size hw3.size)); have HZ37 := Lib.hid (Nat.lt_of_lt_of_le HZ7.out (Nat.le_trans HW2.out.size hw3.size)); have HS3 := Lib.hid (keep13 (hw3.block _ (Nat.lt_of_lt_of_le HZ.out HW2.out.size) id) (hw3.block _ (Nat.lt_of_lt_of_le HZ7.out HW2.out.size) id) HS2.out); clear ho3 hw3; dsimp only))
        have HR : Hid (Own 5 (w.heap.size + 1) w5 v5 (toB fs ver false t.l (k + 1)) ∧ Only (fun _ => False) w w5 ∧ TBox w.heap.size w5 (.int .i64 n) (.slice A1 n1 c1) (.bool nl) (.slice A2 n2 c2) (.slice A3 n3 c3)) := Lib.hid ⟨by rw [HSt.out, ← HX.out]; exact HO5.out,
          (HW.out.trans (O1.out.trans (HW2.out.trans HW3.out))).ownAt HW5.out (Nat.le_succ _), Nat.lt_of_lt_of_le HZ37.out HW5.out.size, by obtain ⟨_, _, _, _, _, _, _, _, h⟩ := HS4.out; exact h⟩
        clear HO5 HW5 HW2 HW3 HS1 HS2 HS3 HS4 HV3 HO3 HB3 HZ3 HZ37 HT2 HZ HZ7 HB1 cA HX HLF HLE O1 HW1 HO HW HBX HSt HFd HC HLe HOne HbB cH
        go_wp2_with fail
        go_roundw
        case rel => exact ⟨k + 1, hlt, by go_num, HR.out⟩
        case measure => simp [intOf]; omega
    · have hk2 : k = fs.length := by omega
      subst hk2
      have hlt' : ¬ ((fs.length : Int) < (fs.length : Int)) := by omega
      go_wp2_with fail
      go_ret
      exact ⟨_, rfl, HO.out.lower (Nat.le_succ _), HW.out⟩

/-! ### the parts joined -/

mutual
/-- Fields that the reference's plain part writes: no tags, no part that may be null. -/
def Fld.good : Fld → Bool
  | .mk kind _ _ nu tag _ _ sub => decide (tag < 0) && (decide (¬ kind = 10) || decide (nu < 0)) && fldsGood sub
def fldsGood : List Fld → Bool
  | [] => true
  | f :: fs => Fld.good f && fldsGood fs
end
theorem fldsGood_mem : ∀ {fs : List Fld}, fldsGood fs = true → ∀ f ∈ fs, Fld.good f = true := by
  intro fs
  induction fs with
  | nil => intro _ f hf; cases hf
  | cons g fs ih =>
    intro h f hf
    simp only [fldsGood, Bool.and_eq_true] at h
    rcases List.mem_cons.1 hf with rfl | hf
    · exact h.1
    · exact ih h.2 f hf
mutual
def Fld.lens : Fld → Bool
  | .mk _ _ _ _ _ _ _ sub => decide (sub.length ≤ 65536) && fldsLens sub
def fldsLens : List Fld → Bool
  | [] => true
  | f :: fs => Fld.lens f && fldsLens fs
end
mutual
theorem field_all : ∀ f : Fld, Fld.good f = true → Fld.lens f = true → FieldC false f
  | .mk kind fr to nu tag df of sub, h, hl => by
    simp only [Fld.good, Bool.and_eq_true, decide_eq_true_eq, Bool.or_eq_true] at h
    simp only [Fld.lens, Bool.and_eq_true, decide_eq_true_eq] at hl
    refine sp_field false _ ?_ ?_
    · intro hk
      rcases h.1.2 with h' | h'
      · exact absurd hk h'
      · exact h'
    · intro _
      exact part_plain sub hl.1 (fun f hf => by
        have := fldsGood_mem h.2 f hf
        cases f
        simp only [Fld.good, Bool.and_eq_true, decide_eq_true_eq] at this
        exact this.1.1) (fields_all sub h.2 hl.2)
theorem fields_all : ∀ fs : List Fld, fldsGood fs = true → fldsLens fs = true → ∀ f ∈ fs, FieldC false f
  | [], _, _ => fun f hf => by cases hf
  | g :: fs, h, hl => fun f hf => by
    simp only [fldsGood, Bool.and_eq_true] at h
    simp only [fldsLens, Bool.and_eq_true] at hl
    rcases List.mem_cons.1 hf with e | hf
    · rw [e]; exact field_all g h.1 hl.1
    · exact fields_all fs h.2 hl.2 f hf
end
theorem part_all (fs : List Fld) (h : fldsGood fs = true) (hl : fldsLens fs = true) (hn : fs.length ≤ 65536) : PartC false fs :=
  part_plain fs hn (fun f hf => by
    have := fldsGood_mem h f hf
    cases f
    simp only [Fld.good, Bool.and_eq_true, decide_eq_true_eq] at this
    exact this.1.1) (fields_all fs h hl)
end Go.Proofs.YtidhhlncmegjaaaDoor.Kf
