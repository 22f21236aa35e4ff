/- What the reference writes of a part with tagged lists. (Printed by spl.py.) -/
import Derived.Test.YtpefipjgcpchaaaGreatDoorRSpK
namespace Go.Proofs.YtpefipjgcpchaaaGreatDoorR.Kf
set_option linter.unusedVariables false
set_option linter.unusedSimpArgs false
open Go Go.RowKit

/-! ### octets behind others, while some blocks stay -/
/-- The value's own block is not among these. -/
def QB (lo hi : Nat) (v : Value) : Prop := ∀ g, v.ownBlock = some g → g < lo ∨ hi ≤ g
theorem wp_app_q {P : Program} {ops : Array Oper} {rest : List Oper} {o : Oper} {a : Act} {Q : Exit → Act → World → Prop} {w : World} (hgd : o.guard = none) (sl x : Operand) (t : TypeId)
    (ho : o.op = .call { callee := .builtin .append, args := #[sl, x], argTypes := #[t, t] }) {base U : Nat} {i : TypeInfo} (ht : P.underlying t = some (.slice U)) (hi : P.info? U = some i) (hz : i.zero = some (.int .u8 0))
    (hsize : i.size = 1) (hby : i.bytes = 1) {v u : Value} {ds s : List UInt8} {B lo hh : Nat} (hs : a.eval sl = v) (hown : Own U base w v ds) (hx : a.eval x = u) (hu : Oc w B u s) (hb : base ≤ w.heap.size) (hl : ds.length + s.length ≤ lim2) (hq : QB lo hh v) (hhi : hh ≤ w.heap.size)
    (h : ∀ v' w', Own U base w' v' (ds ++ s) → QB lo hh v' → Only (fun j => base ≤ j ∧ (j < lo ∨ hh ≤ j)) w w' → wpList P ops Q rest (a.put o.dst v') w') : wpList P ops Q (o :: rest) a w := by
  unfold lim2 at hl
  rcases hu with ⟨rfl, rfl⟩ | ⟨p, c, rfl, hc, hcell⟩
  · refine wpList_plain hgd fun K hK => ?_
    have hrun := run_append_owned_none (P := P) (w := w) base t o.type U i 1 ht hi v ds.length (ds.map u8v) hown
    unfold Oper.wp
    simp [execOp, ho, resolve, invoke, builtin, hs, hx, hrun, Result.andThen]
    exact hK _ _ (h v w (by simpa using hown) hq (Only.refl _ _))
  · refine wpList_append_own_at w hgd sl x t ho base U i (.int .u8 0) 1 1 ht hi hz hsize hby rfl (by decide) v ds.length (ds.map u8v) hs hown p s.length c (s.map u8v) hx (by simp) ?_ ?_ (by unfold maxLen; omega) (by omega) hb ?_
    · intro j u hj
      rw [List.getElem?_map] at hj
      cases hb : s[j]? with
      | none => rw [hb] at hj; cases hj
      | some b => rw [hb] at hj; simp at hj; rw [← hj]; exact (hcell j b hb).2
    · intro u hu
      simp only [List.mem_map] at hu
      obtain ⟨b, _, rfl⟩ := hu
      rfl
    · intro v' w' hown' hgrow _ hbk
      refine h v' w' ?_ (fun g hg => ?_) ⟨hgrow.os, hgrow.tape, hgrow.output, hgrow.size, fun k hk hn => hgrow.block k hk fun e => hn ⟨(World.ownsRow.lt hown k e.symm).1, hq k e.symm⟩⟩
      · unfold Own
        simpa using hown'
      · rcases hbk with h | h
        · exact hq g (h.symm.trans hg)
        · rw [h] at hg
          cases hg
          exact .inr hhi
theorem own_q {U base lo hh : Nat} {w w' : World} {v : Value} {s : List UInt8} (h : Own U base w v s) (hb : lo ≤ base) (hw : w.heap.size ≤ hh) (ho : Only (fun j => j < lo ∨ hh ≤ j) w w') : Own U base w' v s :=
  own_blocks h fun g hg => by
    have := World.ownsRow.lt h g hg
    exact ho.block g this.2 (by omega)
theorem qb_of {U base lo hh : Nat} {w : World} {v : Value} {s : List UInt8} (h : Own U base w v s) (hw : w.heap.size ≤ lo) : QB lo hh v := fun g hg => .inl (Nat.lt_of_lt_of_le (World.ownsRow.lt h g hg).2 hw)
theorem oc_q {lo hh B : Nat} {w w' : World} {v : Value} {s : List UInt8} (h : Oc w B v s) (hB : B ≤ w.heap.size) (ho : Only (fun j => lo ≤ j) w w') (hb : B ≤ lo) : Oc w' B v s := h.keep (ho.kept hB fun k hk h => by omega)

set_option maxRecDepth 100000 in
theorem sp_usualL (w : World) (B : Nat) (f : Fld) (cs : List Value) (t : Tr) (ts : List Value) (hk : f.kind = 11) (hF : FldC w B f cs) (hT : TrC w B t ts) :
    Calls Tryz.prog 35 #[.agg cs.toArray, .agg ts.toArray] w fun e w' => e = .returned (.bool t.l.isEmpty) ∧ Only (fun _ => False) w w' := by
  cases hF with
  | @mk kind of fr to nu tag df sub vs ff hs hS =>
  have k11 : kind = 11 := hk
  subst k11
  obtain ⟨AS, cS, rfl, _⟩ := hs.sl
  cases hT with
  | @mk n s nl l u vs vl vu fl fu h0 h1 hs' hl hL hu hU =>
  obtain ⟨A1, c1, rfl, _⟩ := hl.sl
  obtain ⟨A2, c2, rfl, _⟩ := hu.sl
  obtain ⟨A3, c3, rfl, _⟩ := hs'.sl
  show Calls _ _ _ w fun e w' => e = .returned (.bool l.isEmpty) ∧ Only (fun _ => False) w w'
  have hb : l.isEmpty = decide ((l.length : Int) = 0) := by cases l <;> simp; omega
  rw [hb]
  generalize sub.length = nS
  generalize s.length = nB
  generalize u.length = nU
  generalize l.length = nL
  clear hs hS hs' hl hL hu hU hb
  go_enter Tryz.func35, Tryz.ntmps35
  go_wp2_with fail
  go_ret
  exact ⟨rfl, ((Only.refl _ _).alloc _).alloc _⟩

/-! ### what is written -/
def oneG (f : Fld) (ver : Int) (flex : Bool) (t : Tr) : List UInt8 := if f.tag < 0 then oneB f ver flex t else []
def toG (fs : List Fld) (ver : Int) (flex : Bool) (l : List Tr) : Nat → List UInt8
  | 0 => []
  | k + 1 => toG fs ver flex l k ++ (match fs[k]? with | some f => oneG f ver flex (trAt l k) | none => [])
theorem toG_step {fs : List Fld} {ver : Int} {flex : Bool} {l : List Tr} {k : Nat} (h : k < fs.length) : toG fs ver flex l (k + 1) = toG fs ver flex l k ++ oneG fs[k] ver flex (trAt l k) := by
  simp only [toG, List.getElem?_eq_getElem h]
theorem toG_le (fs : List Fld) (ver : Int) (flex : Bool) (l : List Tr) : ∀ (k j : Nat), (toG fs ver flex l k).length ≤ (toG fs ver flex l (k + j)).length := by
  intro k j
  induction j with
  | zero => exact Nat.le_refl _
  | succ j ih => rw [← Nat.add_assoc, toG, List.length_append]; omega
/-- The lists with a tag that hold something, of the first k fields. -/
def kT2 (fs : List Fld) (ver : Int) (l : List Tr) (tag : Nat) : Nat → List (Nat × List UInt8)
  | 0 => []
  | k + 1 => kT2 fs ver l tag k ++ (match fs[k]? with | some f => if f.tag = (tag : Int) ∧ (trAt l k).l ≠ [] then [(tag, fieldB f ver true (trAt l k))] else [] | none => [])
def kT1 (fs : List Fld) (ver : Int) (l : List Tr) : Nat → List (Nat × List UInt8)
  | 0 => []
  | k + 1 => kT1 fs ver l k ++ kT2 fs ver l k fs.length
theorem kT2_step {fs : List Fld} {ver : Int} {l : List Tr} {tag k : Nat} (h : k < fs.length) : kT2 fs ver l tag (k + 1) = kT2 fs ver l tag k ++ (if fs[k].tag = (tag : Int) ∧ (trAt l k).l ≠ [] then [(tag, fieldB fs[k] ver true (trAt l k))] else []) := by
  simp only [kT2, List.getElem?_eq_getElem h]
theorem kT2_le (fs : List Fld) (ver : Int) (l : List Tr) (tag k : Nat) : ∀ j, (encTags (kT2 fs ver l tag k)).length ≤ (encTags (kT2 fs ver l tag (k + j))).length
  | 0 => Nat.le_refl _
  | j + 1 => by
    have := kT2_le fs ver l tag k j
    rw [← Nat.add_assoc, kT2, encTags_app, List.length_append]; omega
theorem kT1_le (fs : List Fld) (ver : Int) (l : List Tr) (k : Nat) : ∀ j, (encTags (kT1 fs ver l k)).length ≤ (encTags (kT1 fs ver l (k + j))).length
  | 0 => Nat.le_refl _
  | j + 1 => by
    have := kT1_le fs ver l k j
    rw [← Nat.add_assoc, kT1, encTags_app, List.length_append]; omega
theorem kT_le {fs : List Fld} {ver : Int} {l : List Tr} {tag k N : Nat} (h : tag < N) (hk : k ≤ fs.length) : (encTags (kT1 fs ver l tag ++ kT2 fs ver l tag k)).length ≤ (encTags (kT1 fs ver l N)).length := by
  have h1 := kT2_le fs ver l tag k (fs.length - k)
  rw [show k + (fs.length - k) = fs.length by omega] at h1
  have h2 := kT1_le fs ver l (tag + 1) (N - (tag + 1))
  rw [show tag + 1 + (N - (tag + 1)) = N by omega, kT1, encTags_app, List.length_append] at h2
  rw [encTags_app, List.length_append]
  omega
theorem encTags_many : ∀ l : List (Nat × List UInt8), l.length ≤ (encTags l).length
  | [] => Nat.le_refl _
  | (k, v) :: l => by
    have := encTags_many l
    have := uvEnc_pos k
    simp only [encTags, List.length_append, List.length_cons]
    omega
def tgKn (fs : List Fld) (ver : Int) (l : List Tr) : List (Nat × List UInt8) := kT1 fs ver l (lstG fs fs.length)
def tgUn (fs : List Fld) (u : List (Nat × List UInt8)) : List (Nat × List UInt8) := (unkS (lstG fs fs.length) u).map takeV
/-- What is written of a part with tagged lists. -/
def partGB (fs : List Fld) (ver : Int) (flex : Bool) (t : Tr) : List UInt8 :=
  toG fs ver flex t.l fs.length ++ (if flex then uvEnc (tgKn fs ver t.l ++ tgUn fs t.u).length ++ encTags (tgKn fs ver t.l ++ tgUn fs t.u) else [])
/-- Fields: without tags, or tagged lists. -/
structure GsP (flex : Bool) (fs : List Fld) : Prop where
  len : fs.length ≤ 65536
  tag : ∀ f ∈ fs, f.tag ≤ 1000
  k11 : ∀ f ∈ fs, 0 ≤ f.tag → f.kind = 11
  f : ∀ f ∈ fs, FieldC flex f
def PartGC (flex : Bool) (fs : List Fld) : Prop := ∀ (w : World) (B : Nat) (v : Value) (ver : Int) (t : Tr) (ts : List Value), B ≤ w.heap.size → FldsC w B fs v → TrC w B t ts → (partGB fs ver flex t).length + 16 ≤ lim2 →
  Calls Tryz.prog 18 #[v, .int .i64 ver, .bool flex, .agg ts.toArray] w (SpP 5 w (partGB fs ver flex t))
theorem sp_usualT (w : World) (B : Nat) (f : Fld) (cs : List Value) (t : Tr) (ts : List Value) (hk : f.kind = 11) (he : t.l.isEmpty = true) (hF : FldC w B f cs) (hT : TrC w B t ts) :
    Calls Tryz.prog 35 #[.agg cs.toArray, .agg ts.toArray] w fun e w' => e = .returned (.bool true) ∧ Only (fun _ => False) w w' := by
  have := sp_usualL w B f cs t ts hk hF hT
  rwa [he] at this
theorem sp_usualF (w : World) (B : Nat) (f : Fld) (cs : List Value) (t : Tr) (ts : List Value) (hk : f.kind = 11) (he : t.l.isEmpty = false) (hF : FldC w B f cs) (hT : TrC w B t ts) :
    Calls Tryz.prog 35 #[.agg cs.toArray, .agg ts.toArray] w fun e w' => e = .returned (.bool false) ∧ Only (fun _ => False) w w' := by
  have := sp_usualL w B f cs t ts hk hF hT
  rwa [he] at this
theorem own_q2 {U base lo hh b0 : Nat} {w w' : World} {v : Value} {s : List UInt8} (h : Own U base w v s) (hb : ∀ g, v.ownBlock = some g → lo ≤ g ∧ g < hh) (ho : Only (fun j => b0 ≤ j ∧ (j < lo ∨ hh ≤ j)) w w') : Own U base w' v s :=
  own_blocks h fun g hg => by
    have := hb g hg
    exact ho.block g (World.ownsRow.lt h g hg).2 (by omega)
theorem oc_q2 {lo hh B b0 : Nat} {w w' : World} {v : Value} {s : List UInt8} (h : Oc w B v s) (hB : B ≤ w.heap.size) (ho : Only (fun j => b0 ≤ j ∧ (j < lo ∨ hh ≤ j)) w w') (hb : B ≤ b0) : Oc w' B v s := h.keep (ho.kept hB fun k hk h => by omega)
theorem only_b0 {lo hh b0 : Nat} {w w' : World} (ho : Only (fun j => b0 ≤ j ∧ (j < lo ∨ hh ≤ j)) w w') : Only (fun j => b0 ≤ j) w w' := ho.mono fun _ _ h => h.1
theorem unkS_lenG (L : Nat) (u : List (Nat × List UInt8)) : (unkS L u).length ≤ most := by
  unfold unkS
  have := unk_len_aux L (u.take most) []
  simp at this ⊢
  omega
theorem encT_leK (K us : List (Nat × List UInt8)) (k : Nat) : (encTags (K ++ (us.map takeV).take k)).length ≤ (encTags (K ++ us.map takeV)).length := by
  have := encT_le us k
  rw [encTags_app, encTags_app, List.length_append, List.length_append]; omega
theorem encT_stepK {K us : List (Nat × List UInt8)} {k : Nat} (h : k < us.length) : encTags (K ++ (us.map takeV).take (k + 1)) = encTags (K ++ (us.map takeV).take k) ++ (uvEnc us[k].1 ++ (uvEnc (us[k].2.take most).length ++ us[k].2.take most)) := by
  rw [encTags_app, encT_step h, encTags_app, List.append_assoc]
theorem w64s {n : Nat} (h : n ≤ 100000000000000) : wrap64 ((n : Int) + 1) = (n : Int) + 1 := by unfold wrap64; omega
theorem enc_one (TT : List (Nat × List UInt8)) (k : Nat) (v : List UInt8) : encTags (TT ++ [(k, v)]) = encTags TT ++ (uvEnc k ++ (uvEnc v.length ++ v)) := by
  rw [encTags_app]; simp [encTags]
/-! ### the part -/
set_option maxHeartbeats 40000000 in
set_option maxRecDepth 100000 in
theorem part_g_false (fs : List Fld) (hG : GsP false fs) : PartGC false fs := by
  intro w B v ver t ts hB hFs hT hl
  have hlen := hG.len
  have e : partGB fs ver false t = toG fs ver false t.l fs.length := by simp [partGB]
  rw [e] at hl ⊢
  obtain ⟨i0, hi, hz0, hz1, hz2⟩ := info_u8
  obtain ⟨ff, hsl, _⟩ := id hFs
  obtain ⟨A, c, rfl, _⟩ := hsl.sl
  obtain ⟨n, A1, n1, c1, nl, A2, n2, c2, A3, n3, c3, rfl⟩ := hT.form
  have HB := Lib.hid hB
  have HFs := Lib.hid hFs
  have HT := Lib.hid hT
  have HL : Hid ((toG fs ver false t.l fs.length).length + 16 ≤ lim2) := Lib.hid hl
  have HG := Lib.hid hG
  have ht0 : TBox w.heap.size (w.alloc (.cells #[.int .i64 n, .slice A1 n1 c1, .bool nl, .slice A2 n2 c2, .slice A3 n3 c3] 26)) (.int .i64 n) (.slice A1 n1 c1) (.bool nl) (.slice A2 n2 c2) (.slice A3 n3 c3) := by
    refine ⟨by simp, ?_, ?_, ?_, ?_, ?_⟩ <;> simp [World.cell?_alloc_new]
  have HT0 := Lib.hid ht0
  clear hB hFs hT hl hG hsl e ht0
  go_enter Tryz.func18, Tryz.ntmps18
  go_wp2_with fail
  go_loopw [9, 23] (fun v i wr => ∃ k : Nat, k ≤ fs.length ∧ i = .int .i64 k ∧ Own 5 (w.heap.size + 1) wr v (toG fs ver false t.l k) ∧ Only (fun _ => False) w wr ∧ TBox w.heap.size wr (.int .i64 n) (.slice A1 n1 c1) (.bool nl) (.slice A2 n2 c2) (.slice A3 n3 c3))
    (fun _ i _ => fs.length - (intOf i).toNat)
  case atStart => exact ⟨0, Nat.zero_le _, rfl, World.ownsRow_nil _ _ _ _, (Only.refl _ _).alloc _, HT0.out⟩
  case round =>
    obtain ⟨k, hk, rfl, hown, honly, hbox⟩ := hrel
    have HO := Lib.hid hown
    have HW := Lib.hid honly
    have HBX := Lib.hid hbox
    clear hown honly HT0
    by_cases hlt : k < fs.length
    · obtain ⟨b, o, AF, nF, cF, rfl, _, hbB, hf, e0, e1, e2, e3, e4, e5, e6, e7⟩ := (HFs.out.keep (HW.out.kept0 HB.out)).at_ hlt
      obtain ⟨hws, y0, y1, y2, y3, y4⟩ := hbox
      have hstep := toG_step (ver := ver) (flex := false) (l := t.l) hlt
      have hle := toG_le fs ver false t.l (k + 1) (fs.length - (k + 1))
      rw [show k + 1 + (fs.length - (k + 1)) = fs.length by omega, hstep, List.length_append] at hle
      have hfc : FieldC false fs[k] := HG.out.f _ (List.getElem_mem hlt)
      have hone : oneG fs[k] ver false (trAt t.l k) = if fs[k].tag < 0 then (if hasV fs[k].fr fs[k].to ver then fieldB fs[k] ver false (trAt t.l k) else []) else [] := rfl
      generalize fs[k] = f at hf e0 e1 e2 e3 e4 e5 e6 e7 hstep hle hfc hone
      have HSt := Lib.hid hstep
      have HFd := Lib.hid hf
      have HC := Lib.hid hfc
      have HLe := Lib.hid (Nat.le_trans (Nat.add_le_add_right hle 16) HL.out)
      have hone2 := hone
      have HOne := Lib.hid hone
      have HbB := Lib.hid hbB
      have hb' : b < wr.heap.size := by have := HB.out; have := HW.out.size; omega
      have hlt' : (k : Int) < (fs.length : Int) := by omega
      have hws' : w.heap.size + 1 ≤ wr.heap.size := hws
      have hw64 : wrap64 ((k : Int) + 1) = (k : Int) + 1 := by unfold wrap64; omega
      have cH := Lib.hid (fun w' (hw : Only (fun _ => False) wr w') => sp_has w' B f _ ver (hf.keep (hw.kept0 (Nat.le_trans HB.out HW.out.size))))
      clear hstep hf hfc hone hle hbB
      generalize f.kind = kind at HFd e0 e1 e2 e3 e4 e5 e6 e7 cH
      generalize f.nu = nu at HFd e0 e1 e2 e3 e4 e5 e6 e7 cH
      generalize f.df = df at HFd e0 e1 e2 e3 e4 e5 e6 e7 cH
      generalize f.of = of at HFd e0 e1 e2 e3 e4 e5 e6 e7 cH
      generalize htag : f.tag = tag at HFd e0 e1 e2 e3 e4 e5 e6 e7 cH
      by_cases htg : tag < 0
      rotate_left
      · have tt : decide (tag < 0) = false := by simpa using htg
        have HHT := Lib.hid htag
        have HHG := Lib.hid htg
        clear htag htg
        generalize f.fr = fr at HFd e0 e1 e2 e3 e4 e5 e6 e7 cH
        generalize f.to = to at HFd e0 e1 e2 e3 e4 e5 e6 e7 cH
        go_wp2_with fail
        go_roundw
        case rel =>
          have O1 := (Only.refl (fun _ => False) wr).alloc (.cells #[.int .i64 kind, .int .i64 fr, .int .i64 to, .int .i64 nu, .int .i64 tag, .int .i64 df, .int .i64 of, .slice AF nF cF] 48)
          refine ⟨k + 1, hlt, by go_num, ?_, HW.out.trans O1, HBX.out.keep (b0 := w.heap.size + 1) O1.lift (Nat.lt_succ_self _)⟩
          rw [HSt.out, HOne.out, if_neg (by rw [HHT.out]; exact HHG.out)]
          simpa using HO.out.keep O1
        case measure => simp [intOf]; omega
      have tt : decide (tag < 0) = true := by simpa using htg
      rw [if_pos (by rw [htag]; exact htg)] at hone2
      have HOne := Lib.hid hone2
      clear htag htg hone2
      cases hhv : hasV f.fr f.to ver
      · rw [hhv] at cH
        generalize f.fr = fr at HFd e0 e1 e2 e3 e4 e5 e6 e7 cH
        generalize f.to = to at HFd e0 e1 e2 e3 e4 e5 e6 e7 cH
        go_wp2_with (go_at_call 31; refine (cH.out _ ?_).mono ?_; (exact (Only.refl _ _).alloc _); rintro e1 w1 ⟨rfl, hw1⟩; have HW1 := Lib.hid hw1; clear hw1)
        go_roundw
        case rel =>
          have O1 := ((Only.refl (fun _ => False) wr).alloc _).trans HW1.out
          refine ⟨k + 1, hlt, by go_num, ?_, HW.out.trans O1, HBX.out.keep (b0 := w.heap.size + 1) O1.lift (Nat.lt_succ_self _)⟩
          rw [HSt.out, HOne.out, hhv]
          simpa using HO.out.keep O1
        case measure => simp [intOf]; omega
      · rw [hhv] at cH
        have HH := Lib.hid hhv
        clear hhv
        generalize f.fr = fr at HFd e0 e1 e2 e3 e4 e5 e6 e7 cH
        generalize f.to = to at HFd e0 e1 e2 e3 e4 e5 e6 e7 cH
        go_wp2_with (go_at_call 31; refine (cH.out _ ?_).mono ?_; (exact (Only.refl _ _).alloc _); rintro e1 w1 ⟨rfl, hw1⟩; have HW1 := Lib.hid hw1; clear hw1)
        have O1 := Lib.hid (((Only.refl (fun _ => False) wr).alloc _).trans HW1.out)
        have HS1 := Lib.hid (And.intro (boxN HW1.out 0 rfl) (And.intro (boxN HW1.out 1 rfl) (And.intro (boxN HW1.out 2 rfl) (And.intro (boxN HW1.out 3 rfl) (And.intro (boxN HW1.out 4 rfl) (And.intro (boxN HW1.out 5 rfl) (And.intro (boxN HW1.out 6 rfl) (And.intro (boxN HW1.out 7 rfl) (HBX.out.keep (b0 := w.heap.size + 1) O1.out.lift (Nat.lt_succ_self _)).2))))))))
        have hz1' : wr.heap.size < w1.heap.size := by have := HW1.out.size; simp at this; omega
        have HZ := Lib.hid hz1'
        have HZ7 : Hid (w.heap.size < w1.heap.size) := Lib.hid (by omega)
        have HB1 : Hid (B ≤ w1.heap.size) := Lib.hid (by have := HB.out; omega)
        have cA := Lib.hid (sp_at w1.drew B t _ k HB1.out (TrC.keep (w := w) (w' := w1.drew) ((HW.out.trans O1.out).drew.kept0 HB.out) HT.out))
        have HX : Hid (fieldB f ver false (trAt t.l k) = oneG f ver false (trAt t.l k)) := Lib.hid (by rw [HOne.out, HH.out]; rfl)
        have HLF : Hid ((fieldB f ver false (trAt t.l k)).length + 16 ≤ lim2) := Lib.hid (by rw [HX.out]; have := HLe.out; omega)
        have HLE : Hid ((toG fs ver false t.l k).length + (fieldB f ver false (trAt t.l k)).length ≤ lim2) := Lib.hid (by rw [HX.out]; have := HLe.out; omega)
        clear hz1' e0 e1 e2 e3 e4 e5 e6 e7 y0 y1 y2 y3 y4
        go_region_held3 (fun w' => w'.cell? ⟨wr.heap.size, 0, none⟩ = some (.int .i64 kind) ∧ w'.cell? ⟨wr.heap.size, 1, none⟩ = some (.int .i64 fr) ∧ w'.cell? ⟨wr.heap.size, 2, none⟩ = some (.int .i64 to) ∧ w'.cell? ⟨wr.heap.size, 3, none⟩ = some (.int .i64 nu) ∧ w'.cell? ⟨wr.heap.size, 4, none⟩ = some (.int .i64 tag) ∧ w'.cell? ⟨wr.heap.size, 5, none⟩ = some (.int .i64 df) ∧ w'.cell? ⟨wr.heap.size, 6, none⟩ = some (.int .i64 of) ∧ w'.cell? ⟨wr.heap.size, 7, none⟩ = some (.slice AF nF cF) ∧ w'.cell? ⟨w.heap.size, 0, none⟩ = some (.int .i64 n) ∧ w'.cell? ⟨w.heap.size, 1, none⟩ = some (.slice A1 n1 c1) ∧ w'.cell? ⟨w.heap.size, 2, none⟩ = some (.bool nl) ∧ w'.cell? ⟨w.heap.size, 3, none⟩ = some (.slice A2 n2 c2) ∧ w'.cell? ⟨w.heap.size, 4, none⟩ = some (.slice A3 n3 c3))
          (first | exact HS1.out | exact HS2.out | exact HS3.out | exact HS4.out)
          (first
            | (refine step_app_ocg rfl _ _ 22 rfl Tryz.underlying22 hi hz0 hz1 hz2 rfl HO3.out rfl HV3.out HB3.out HLE.out ?_; intro v5 w5 ho5 hw5 hg5; have HO5 := Lib.hid ho5; have HW5 := Lib.hid hw5; have HS4 := Lib.hid (keep13 (hg5.block _ HZ3.out (own_ne HO.out (Nat.le_refl _))) (hg5.block _ HZ37.out (own_ne_low HO.out (Nat.lt_succ_self _))) HS3.out); clear ho5 hw5 hg5)
            | (go_at_call 33; refine cA.out.mono ?_; rintro e2 w2 ⟨cs2, rfl, ht2, hw2⟩; have HT2 := Lib.hid ht2; have HW2 := Lib.hid (((Only.refl (fun _ => False) w1).drew).trans hw2); have HS2 := Lib.hid (keep13 (HW2.out.block _ HZ.out id) (HW2.out.block _ HZ7.out id) HS1.out); clear ht2 hw2; dsimp only)
            | (go_at_call 32; refine (HC.out w2 B _ ver (trAt t.l k) cs2 (Nat.le_trans HB1.out HW2.out.size) (HFd.out.keep ((O1.out.trans HW2.out).kept0 (Nat.le_trans HB.out HW.out.size))) HT2.out HLF.out).mono ?_; rintro e3 w3 ⟨v3, rfl, ho3, hw3⟩; have HW3 := Lib.hid hw3; have HV3 := Lib.hid ho3.oc; have HO3 := Lib.hid (HO.out.keep (O1.out.trans (HW2.out.trans hw3))); have HB3 : Hid (w.heap.size + 1 ≤ w3.heap.size) := Lib.hid (Nat.le_trans HZ7.out (Nat.le_trans HW2.out.size hw3.size)); have HZ3 := Lib.hid (Nat.lt_of_lt_of_le HZ.out (Nat.le_trans HW2.out.size hw3.size)); have HZ37 := Lib.hid (Nat.lt_of_lt_of_le HZ7.out (Nat.le_trans HW2.out.size hw3.size)); have HS3 := Lib.hid (keep13 (hw3.block _ (Nat.lt_of_lt_of_le HZ.out HW2.out.size) id) (hw3.block _ (Nat.lt_of_lt_of_le HZ7.out HW2.out.size) id) HS2.out); clear ho3 hw3; dsimp only))
        have HR : Hid (Own 5 (w.heap.size + 1) w5 v5 (toG fs ver false t.l (k + 1)) ∧ Only (fun _ => False) w w5 ∧ TBox w.heap.size w5 (.int .i64 n) (.slice A1 n1 c1) (.bool nl) (.slice A2 n2 c2) (.slice A3 n3 c3)) := Lib.hid ⟨by rw [HSt.out, ← HX.out]; exact HO5.out,
          (HW.out.trans (O1.out.trans (HW2.out.trans HW3.out))).ownAt HW5.out (Nat.le_succ _), Nat.lt_of_lt_of_le HZ37.out HW5.out.size, by obtain ⟨_, _, _, _, _, _, _, _, h⟩ := HS4.out; exact h⟩
        clear HO5 HW5 HW2 HW3 HS1 HS2 HS3 HS4 HV3 HO3 HB3 HZ3 HZ37 HT2 HZ HZ7 HB1 cA HX HLF HLE O1 HW1 HO HW HBX HSt HFd HC HLe HOne HbB cH
        go_wp2_with fail
        go_roundw
        case rel => exact ⟨k + 1, hlt, by go_num, HR.out⟩
        case measure => simp [intOf]; omega
    · have hk2 : k = fs.length := by omega
      subst hk2
      have hlt' : ¬ ((fs.length : Int) < (fs.length : Int)) := by omega
      go_wp2_with fail
      go_ret
      exact ⟨_, rfl, HO.out.lower (Nat.le_succ _), HW.out⟩

set_option maxHeartbeats 40000000 in
set_option maxRecDepth 100000 in
theorem part_g_true (fs : List Fld) (hG : GsP true fs) : PartGC true fs := by
  intro w B v ver t ts hB hFs hT hl
  have hlen := hG.len
  have e : partGB fs ver true t = toG fs ver true t.l fs.length ++ (uvEnc (tgKn fs ver t.l ++ tgUn fs t.u).length ++ encTags (tgKn fs ver t.l ++ tgUn fs t.u)) := by simp [partGB]
  rw [e] at hl ⊢
  obtain ⟨i0, hi, hz0, hz1, hz2⟩ := info_u8
  obtain ⟨ff, hsl, _⟩ := id hFs
  obtain ⟨A, c, rfl, _⟩ := hsl.sl
  obtain ⟨n, A1, n1, c1, nl, A2, n2, c2, A3, n3, c3, rfl⟩ := hT.form
  have HB := Lib.hid hB
  have HFs := Lib.hid hFs
  have HT := Lib.hid hT
  have HLT := Lib.hid hl
  have HL : Hid ((toG fs ver true t.l fs.length).length + 16 ≤ lim2) := Lib.hid (by rw [List.length_append] at hl; omega)
  have HG := Lib.hid hG
  have ht0 : TBox w.heap.size (w.alloc (.cells #[.int .i64 n, .slice A1 n1 c1, .bool nl, .slice A2 n2 c2, .slice A3 n3 c3] 26)) (.int .i64 n) (.slice A1 n1 c1) (.bool nl) (.slice A2 n2 c2) (.slice A3 n3 c3) := by
    refine ⟨by simp, ?_, ?_, ?_, ?_, ?_⟩ <;> simp [World.cell?_alloc_new]
  have HT0 := Lib.hid ht0
  clear hB hFs hT hl hG hsl e ht0
  go_enter Tryz.func18, Tryz.ntmps18
  go_wp2_with fail
  go_loopw [9, 23] (fun v i wr => ∃ k : Nat, k ≤ fs.length ∧ i = .int .i64 k ∧ Own 5 (w.heap.size + 1) wr v (toG fs ver true t.l k) ∧ Only (fun _ => False) w wr ∧ TBox w.heap.size wr (.int .i64 n) (.slice A1 n1 c1) (.bool nl) (.slice A2 n2 c2) (.slice A3 n3 c3))
    (fun _ i _ => fs.length - (intOf i).toNat)
  case atStart => exact ⟨0, Nat.zero_le _, rfl, World.ownsRow_nil _ _ _ _, (Only.refl _ _).alloc _, HT0.out⟩
  case round =>
    obtain ⟨k, hk, rfl, hown, honly, hbox⟩ := hrel
    have HO := Lib.hid hown
    have HW := Lib.hid honly
    have HBX := Lib.hid hbox
    clear hown honly HT0
    by_cases hlt : k < fs.length
    · obtain ⟨b, o, AF, nF, cF, rfl, _, hbB, hf, e0, e1, e2, e3, e4, e5, e6, e7⟩ := (HFs.out.keep (HW.out.kept0 HB.out)).at_ hlt
      obtain ⟨hws, y0, y1, y2, y3, y4⟩ := hbox
      have hstep := toG_step (ver := ver) (flex := true) (l := t.l) hlt
      have hle := toG_le fs ver true t.l (k + 1) (fs.length - (k + 1))
      rw [show k + 1 + (fs.length - (k + 1)) = fs.length by omega, hstep, List.length_append] at hle
      have hfc : FieldC true fs[k] := HG.out.f _ (List.getElem_mem hlt)
      have hone : oneG fs[k] ver true (trAt t.l k) = if fs[k].tag < 0 then (if hasV fs[k].fr fs[k].to ver then fieldB fs[k] ver true (trAt t.l k) else []) else [] := rfl
      generalize fs[k] = f at hf e0 e1 e2 e3 e4 e5 e6 e7 hstep hle hfc hone
      have HSt := Lib.hid hstep
      have HFd := Lib.hid hf
      have HC := Lib.hid hfc
      have HLe := Lib.hid (Nat.le_trans (Nat.add_le_add_right hle 16) HL.out)
      have hone2 := hone
      have HOne := Lib.hid hone
      have HbB := Lib.hid hbB
      have hb' : b < wr.heap.size := by have := HB.out; have := HW.out.size; omega
      have hlt' : (k : Int) < (fs.length : Int) := by omega
      have hws' : w.heap.size + 1 ≤ wr.heap.size := hws
      have hw64 : wrap64 ((k : Int) + 1) = (k : Int) + 1 := by unfold wrap64; omega
      have cH := Lib.hid (fun w' (hw : Only (fun _ => False) wr w') => sp_has w' B f _ ver (hf.keep (hw.kept0 (Nat.le_trans HB.out HW.out.size))))
      clear hstep hf hfc hone hle hbB
      generalize f.kind = kind at HFd e0 e1 e2 e3 e4 e5 e6 e7 cH
      generalize f.nu = nu at HFd e0 e1 e2 e3 e4 e5 e6 e7 cH
      generalize f.df = df at HFd e0 e1 e2 e3 e4 e5 e6 e7 cH
      generalize f.of = of at HFd e0 e1 e2 e3 e4 e5 e6 e7 cH
      generalize htag : f.tag = tag at HFd e0 e1 e2 e3 e4 e5 e6 e7 cH
      by_cases htg : tag < 0
      rotate_left
      · have tt : decide (tag < 0) = false := by simpa using htg
        have HHT := Lib.hid htag
        have HHG := Lib.hid htg
        clear htag htg
        generalize f.fr = fr at HFd e0 e1 e2 e3 e4 e5 e6 e7 cH
        generalize f.to = to at HFd e0 e1 e2 e3 e4 e5 e6 e7 cH
        go_wp2_with fail
        go_roundw
        case rel =>
          have O1 := (Only.refl (fun _ => False) wr).alloc (.cells #[.int .i64 kind, .int .i64 fr, .int .i64 to, .int .i64 nu, .int .i64 tag, .int .i64 df, .int .i64 of, .slice AF nF cF] 48)
          refine ⟨k + 1, hlt, by go_num, ?_, HW.out.trans O1, HBX.out.keep (b0 := w.heap.size + 1) O1.lift (Nat.lt_succ_self _)⟩
          rw [HSt.out, HOne.out, if_neg (by rw [HHT.out]; exact HHG.out)]
          simpa using HO.out.keep O1
        case measure => simp [intOf]; omega
      have tt : decide (tag < 0) = true := by simpa using htg
      rw [if_pos (by rw [htag]; exact htg)] at hone2
      have HOne := Lib.hid hone2
      clear htag htg hone2
      cases hhv : hasV f.fr f.to ver
      · rw [hhv] at cH
        generalize f.fr = fr at HFd e0 e1 e2 e3 e4 e5 e6 e7 cH
        generalize f.to = to at HFd e0 e1 e2 e3 e4 e5 e6 e7 cH
        go_wp2_with (go_at_call 31; refine (cH.out _ ?_).mono ?_; (exact (Only.refl _ _).alloc _); rintro e1 w1 ⟨rfl, hw1⟩; have HW1 := Lib.hid hw1; clear hw1)
        go_roundw
        case rel =>
          have O1 := ((Only.refl (fun _ => False) wr).alloc _).trans HW1.out
          refine ⟨k + 1, hlt, by go_num, ?_, HW.out.trans O1, HBX.out.keep (b0 := w.heap.size + 1) O1.lift (Nat.lt_succ_self _)⟩
          rw [HSt.out, HOne.out, hhv]
          simpa using HO.out.keep O1
        case measure => simp [intOf]; omega
      · rw [hhv] at cH
        have HH := Lib.hid hhv
        clear hhv
        generalize f.fr = fr at HFd e0 e1 e2 e3 e4 e5 e6 e7 cH
        generalize f.to = to at HFd e0 e1 e2 e3 e4 e5 e6 e7 cH
        go_wp2_with (go_at_call 31; refine (cH.out _ ?_).mono ?_; (exact (Only.refl _ _).alloc _); rintro e1 w1 ⟨rfl, hw1⟩; have HW1 := Lib.hid hw1; clear hw1)
        have O1 := Lib.hid (((Only.refl (fun _ => False) wr).alloc _).trans HW1.out)
        have HS1 := Lib.hid (And.intro (boxN HW1.out 0 rfl) (And.intro (boxN HW1.out 1 rfl) (And.intro (boxN HW1.out 2 rfl) (And.intro (boxN HW1.out 3 rfl) (And.intro (boxN HW1.out 4 rfl) (And.intro (boxN HW1.out 5 rfl) (And.intro (boxN HW1.out 6 rfl) (And.intro (boxN HW1.out 7 rfl) (HBX.out.keep (b0 := w.heap.size + 1) O1.out.lift (Nat.lt_succ_self _)).2))))))))
        have hz1' : wr.heap.size < w1.heap.size := by have := HW1.out.size; simp at this; omega
        have HZ := Lib.hid hz1'
        have HZ7 : Hid (w.heap.size < w1.heap.size) := Lib.hid (by omega)
        have HB1 : Hid (B ≤ w1.heap.size) := Lib.hid (by have := HB.out; omega)
        have cA := Lib.hid (sp_at w1.drew B t _ k HB1.out (TrC.keep (w := w) (w' := w1.drew) ((HW.out.trans O1.out).drew.kept0 HB.out) HT.out))
        have HX : Hid (fieldB f ver true (trAt t.l k) = oneG f ver true (trAt t.l k)) := Lib.hid (by rw [HOne.out, HH.out]; rfl)
        have HLF : Hid ((fieldB f ver true (trAt t.l k)).length + 16 ≤ lim2) := Lib.hid (by rw [HX.out]; have := HLe.out; omega)
        have HLE : Hid ((toG fs ver true t.l k).length + (fieldB f ver true (trAt t.l k)).length ≤ lim2) := Lib.hid (by rw [HX.out]; have := HLe.out; omega)
        clear hz1' e0 e1 e2 e3 e4 e5 e6 e7 y0 y1 y2 y3 y4
        go_region_held3 (fun w' => w'.cell? ⟨wr.heap.size, 0, none⟩ = some (.int .i64 kind) ∧ w'.cell? ⟨wr.heap.size, 1, none⟩ = some (.int .i64 fr) ∧ w'.cell? ⟨wr.heap.size, 2, none⟩ = some (.int .i64 to) ∧ w'.cell? ⟨wr.heap.size, 3, none⟩ = some (.int .i64 nu) ∧ w'.cell? ⟨wr.heap.size, 4, none⟩ = some (.int .i64 tag) ∧ w'.cell? ⟨wr.heap.size, 5, none⟩ = some (.int .i64 df) ∧ w'.cell? ⟨wr.heap.size, 6, none⟩ = some (.int .i64 of) ∧ w'.cell? ⟨wr.heap.size, 7, none⟩ = some (.slice AF nF cF) ∧ w'.cell? ⟨w.heap.size, 0, none⟩ = some (.int .i64 n) ∧ w'.cell? ⟨w.heap.size, 1, none⟩ = some (.slice A1 n1 c1) ∧ w'.cell? ⟨w.heap.size, 2, none⟩ = some (.bool nl) ∧ w'.cell? ⟨w.heap.size, 3, none⟩ = some (.slice A2 n2 c2) ∧ w'.cell? ⟨w.heap.size, 4, none⟩ = some (.slice A3 n3 c3))
          (first | exact HS1.out | exact HS2.out | exact HS3.out | exact HS4.out)
          (first
            | (refine step_app_ocg rfl _ _ 22 rfl Tryz.underlying22 hi hz0 hz1 hz2 rfl HO3.out rfl HV3.out HB3.out HLE.out ?_; intro v5 w5 ho5 hw5 hg5; have HO5 := Lib.hid ho5; have HW5 := Lib.hid hw5; have HS4 := Lib.hid (keep13 (hg5.block _ HZ3.out (own_ne HO.out (Nat.le_refl _))) (hg5.block _ HZ37.out (own_ne_low HO.out (Nat.lt_succ_self _))) HS3.out); clear ho5 hw5 hg5)
            | (go_at_call 33; refine cA.out.mono ?_; rintro e2 w2 ⟨cs2, rfl, ht2, hw2⟩; have HT2 := Lib.hid ht2; have HW2 := Lib.hid (((Only.refl (fun _ => False) w1).drew).trans hw2); have HS2 := Lib.hid (keep13 (HW2.out.block _ HZ.out id) (HW2.out.block _ HZ7.out id) HS1.out); clear ht2 hw2; dsimp only)
            | (go_at_call 32; refine (HC.out w2 B _ ver (trAt t.l k) cs2 (Nat.le_trans HB1.out HW2.out.size) (HFd.out.keep ((O1.out.trans HW2.out).kept0 (Nat.le_trans HB.out HW.out.size))) HT2.out HLF.out).mono ?_; rintro e3 w3 ⟨v3, rfl, ho3, hw3⟩; have HW3 := Lib.hid hw3; have HV3 := Lib.hid ho3.oc; have HO3 := Lib.hid (HO.out.keep (O1.out.trans (HW2.out.trans hw3))); have HB3 : Hid (w.heap.size + 1 ≤ w3.heap.size) := Lib.hid (Nat.le_trans HZ7.out (Nat.le_trans HW2.out.size hw3.size)); have HZ3 := Lib.hid (Nat.lt_of_lt_of_le HZ.out (Nat.le_trans HW2.out.size hw3.size)); have HZ37 := Lib.hid (Nat.lt_of_lt_of_le HZ7.out (Nat.le_trans HW2.out.size hw3.size)); have HS3 := Lib.hid (keep13 (hw3.block _ (Nat.lt_of_lt_of_le HZ.out HW2.out.size) id) (hw3.block _ (Nat.lt_of_lt_of_le HZ7.out HW2.out.size) id) HS2.out); clear ho3 hw3; dsimp only))
        have HR : Hid (Own 5 (w.heap.size + 1) w5 v5 (toG fs ver true t.l (k + 1)) ∧ Only (fun _ => False) w w5 ∧ TBox w.heap.size w5 (.int .i64 n) (.slice A1 n1 c1) (.bool nl) (.slice A2 n2 c2) (.slice A3 n3 c3)) := Lib.hid ⟨by rw [HSt.out, ← HX.out]; exact HO5.out,
          (HW.out.trans (O1.out.trans (HW2.out.trans HW3.out))).ownAt HW5.out (Nat.le_succ _), Nat.lt_of_lt_of_le HZ37.out HW5.out.size, by obtain ⟨_, _, _, _, _, _, _, _, h⟩ := HS4.out; exact h⟩
        clear HO5 HW5 HW2 HW3 HS1 HS2 HS3 HS4 HV3 HO3 HB3 HZ3 HZ37 HT2 HZ HZ7 HB1 cA HX HLF HLE O1 HW1 HO HW HBX HSt HFd HC HLe HOne HbB cH
        go_wp2_with fail
        go_roundw
        case rel => exact ⟨k + 1, hlt, by go_num, HR.out⟩
        case measure => simp [intOf]; omega
    · have hk2 : k = fs.length := by omega
      subst hk2
      have hlt' : ¬ ((fs.length : Int) < (fs.length : Int)) := by omega
      have cK := Lib.hid (sp_knownG wr B fs _ (Nat.le_trans HB.out HW.out.size) (HFs.out.keep (HW.out.kept0 HB.out)) HG.out.tag hlen)
      obtain ⟨N, hN⟩ : ∃ N, lstG fs fs.length = N := ⟨_, rfl⟩
      have hNb : N ≤ 1001 := by rw [← hN]; exact lstG_le HG.out.tag _
      have hNw : wrap64 (N : Int) = (N : Int) := by unfold wrap64; omega
      have HKN : Hid (tgKn fs ver t.l = kT1 fs ver t.l N) := Lib.hid (by unfold tgKn; rw [hN])
      have HBT : Hid ((encTags (kT1 fs ver t.l N)).length + 16 ≤ lim2) := Lib.hid (by
        have h := HLT.out
        rw [HKN.out, encTags_app] at h
        simp only [List.length_append] at h
        omega)
      rw [hN] at cK
      clear hlt' hN
      go_wp2_with (go_at_call 34; refine cK.out.mono ?_; rintro e1 w1 ⟨rfl, hw1⟩; have HW1 := Lib.hid hw1; clear hw1 cK)
      go_loopw [10, 11, 52] (fun q m i wl => ∃ k2 : Nat, k2 ≤ N ∧ i = .int .i64 k2 ∧ m = .int .i64 ((kT1 fs ver t.l k2).length : Nat) ∧ Own 5 w1.heap.size wl q (encTags (kT1 fs ver t.l k2)) ∧ Only (fun _ => False) w1 wl) (fun _ _ i _ => N - (intOf i).toNat)
      case atStart => exact ⟨0, Nat.zero_le _, rfl, rfl, World.ownsRow_nil _ _ _ _, Only.refl _ _⟩
      case round =>
        obtain ⟨k2, hk2, rfl, hm, hq, hwl⟩ := hrel
        subst hm
        have HWL := Lib.hid hwl
        have HQ := Lib.hid hq
        clear hwl hq
        have e2w : wrap64 ((k2 : Int) + 1) = (k2 : Int) + 1 := w64s (Nat.le_trans hk2 (Nat.le_trans hNb (by decide)))
        by_cases hlt2 : k2 < N
        · have hlt2' : (k2 : Int) < (N : Int) := by omega
          have HL2 := Lib.hid hlt2
          go_wp2_with fail
          go_loopw [10, 11, 57] (fun q m i w3 => ∃ k : Nat, k ≤ fs.length ∧ i = .int .i64 k ∧ m = .int .i64 ((kT1 fs ver t.l k2 ++ kT2 fs ver t.l k2 k).length : Nat) ∧ Own 5 w1.heap.size w3 q (encTags (kT1 fs ver t.l k2 ++ kT2 fs ver t.l k2 k)) ∧ Only (fun _ => False) w1 w3) (fun _ _ i _ => fs.length - (intOf i).toNat)
          case atStart => exact ⟨0, Nat.zero_le _, rfl, by simp [kT2], by have := HQ.out; simpa [kT2] using this, HWL.out⟩
          case round =>
            obtain ⟨k, hk, rfl, hm3, hq3, hw3⟩ := hrel
            subst hm3
            have HW3 := Lib.hid hw3
            have HQ3 := Lib.hid hq3
            clear hw3 hq3
            have e3w : wrap64 ((k : Int) + 1) = (k : Int) + 1 := w64s (Nat.le_trans hk (Nat.le_trans hlen (by decide)))
            by_cases hlt : k < fs.length
            · have HOW := Lib.hid (HW.out.trans (HW1.out.trans HW3.out))
              obtain ⟨b, o, AF, nF, cF, rfl, _, hbB, hf, e0, e1, e2, e3, e4, e5, e6, e7⟩ := (HFs.out.keep (HOW.out.kept0 HB.out)).at_ hlt
              have hstep : kT1 fs ver t.l k2 ++ kT2 fs ver t.l k2 (k + 1) = (kT1 fs ver t.l k2 ++ kT2 fs ver t.l k2 k) ++ (if fs[k].tag = (k2 : Int) ∧ (trAt t.l k).l ≠ [] then [(k2, fieldB fs[k] ver true (trAt t.l k))] else []) := by rw [kT2_step hlt, List.append_assoc]
              have hle := Nat.le_trans (Nat.add_le_add_right (kT_le (ver := ver) (l := t.l) HL2.out (show k + 1 ≤ fs.length from hlt)) 16) HBT.out
              rw [hstep] at hle
              have hk11 : 0 ≤ fs[k].tag → fs[k].kind = 11 := HG.out.k11 _ (List.getElem_mem hlt)
              have hfc : FieldC true fs[k] := HG.out.f _ (List.getElem_mem hlt)
              generalize hTT : kT1 fs ver t.l k2 ++ kT2 fs ver t.l k2 k = TT at *
              generalize fs[k] = f at hf e0 e1 e2 e3 e4 e5 e6 e7 hstep hle hk11 hfc
              have HST := Lib.hid hstep
              have HLE := Lib.hid hle
              have HK11 := Lib.hid hk11
              have HC := Lib.hid hfc
              have HFd := Lib.hid hf
              have hTl : TT.length ≤ 70368744177664 := by
                have h1 := encTags_many TT
                rw [encTags_app, List.length_append] at hle
                unfold lim2 at hle
                omega
              have hmw : wrap64 ((TT.length : Int) + 1) = (TT.length : Int) + 1 := w64s (Nat.le_trans hTl (by decide))
              have hlt' : (k : Int) < (fs.length : Int) := by omega
              clear hf hbB hstep hle hk11 hfc hTT
              generalize hkd : f.kind = kind at HFd e0 e1 e2 e3 e4 e5 e6 e7
              generalize f.fr = fr at HFd e0 e1 e2 e3 e4 e5 e6 e7
              generalize f.to = to at HFd e0 e1 e2 e3 e4 e5 e6 e7
              generalize f.nu = nu at HFd e0 e1 e2 e3 e4 e5 e6 e7
              generalize htag : f.tag = tag at HFd e0 e1 e2 e3 e4 e5 e6 e7
              generalize f.df = df at HFd e0 e1 e2 e3 e4 e5 e6 e7
              generalize f.of = of at HFd e0 e1 e2 e3 e4 e5 e6 e7
              have HTAG := Lib.hid htag
              clear htag hkd
              have HBX3 := Lib.hid (HBX.out.keep (b0 := w.heap.size + 1) (HW1.out.trans HW3.out).lift (Nat.lt_succ_self _))
              go_wp2_with fail
              obtain ⟨W4, hW4⟩ : ∃ W4, wr.alloc (.cells #[.int .i64 kind, .int .i64 fr, .int .i64 to, .int .i64 nu, .int .i64 tag, .int .i64 df, .int .i64 of, .slice AF nF cF] 48) = W4 := ⟨_, rfl⟩
              have O4 := Lib.hid (show Only (fun _ => False) wr W4 by rw [← hW4]; exact (Only.refl _ _).alloc _)
              have HS1 := Lib.hid (show ((fun w' => w'.cell? ⟨wr.heap.size, 0, none⟩ = some (.int .i64 kind) ∧ w'.cell? ⟨wr.heap.size, 1, none⟩ = some (.int .i64 fr) ∧ w'.cell? ⟨wr.heap.size, 2, none⟩ = some (.int .i64 to) ∧ w'.cell? ⟨wr.heap.size, 3, none⟩ = some (.int .i64 nu) ∧ w'.cell? ⟨wr.heap.size, 4, none⟩ = some (.int .i64 tag) ∧ w'.cell? ⟨wr.heap.size, 5, none⟩ = some (.int .i64 df) ∧ w'.cell? ⟨wr.heap.size, 6, none⟩ = some (.int .i64 of) ∧ w'.cell? ⟨wr.heap.size, 7, none⟩ = some (.slice AF nF cF) ∧ w'.cell? ⟨w.heap.size, 0, none⟩ = some (.int .i64 n) ∧ w'.cell? ⟨w.heap.size, 1, none⟩ = some (.slice A1 n1 c1) ∧ w'.cell? ⟨w.heap.size, 2, none⟩ = some (.bool nl) ∧ w'.cell? ⟨w.heap.size, 3, none⟩ = some (.slice A2 n2 c2) ∧ w'.cell? ⟨w.heap.size, 4, none⟩ = some (.slice A3 n3 c3))) W4 from by rw [← hW4]; exact And.intro (boxN (Only.refl _ _) 0 rfl) (And.intro (boxN (Only.refl _ _) 1 rfl) (And.intro (boxN (Only.refl _ _) 2 rfl) (And.intro (boxN (Only.refl _ _) 3 rfl) (And.intro (boxN (Only.refl _ _) 4 rfl) (And.intro (boxN (Only.refl _ _) 5 rfl) (And.intro (boxN (Only.refl _ _) 6 rfl) (And.intro (boxN (Only.refl _ _) 7 rfl) (HBX3.out.keep (b0 := w.heap.size + 1) ((Only.refl _ wr).alloc _ : Only (fun _ => False) wr _).lift (Nat.lt_succ_self _)).2))))))))
              have HZ : Hid (wr.heap.size < W4.heap.size) := Lib.hid (by rw [← hW4]; simp)
              have HZ7 : Hid (w.heap.size < W4.heap.size) := Lib.hid (Nat.lt_trans HBX3.out.1 HZ.out)
              rw [hW4]
              clear hW4 e0 e1 e2 e3 e4 e5 e6 e7
              by_cases hteq : tag = (k2 : Int)
              · subst hteq
                have HKF : Hid (f.kind = 11) := Lib.hid (HK11.out (by rw [HTAG.out]; exact Int.natCast_nonneg _))
                have HBW : Hid (B ≤ wr.heap.size) := Lib.hid (Nat.le_trans HB.out HOW.out.size)
                have cA := Lib.hid (sp_at W4.drew B t _ k (Nat.le_trans HBW.out O4.out.size) (TrC.keep (w := w) (w' := W4.drew) ((HOW.out.trans O4.out).drew.kept0 HB.out) HT.out))
                obtain ⟨c0, c1', c2', c3', c4, c5, c6, c7, d0, d1, d2, d3, d4⟩ := HS1.out
                cases hem : (trAt t.l k).l.isEmpty
                · -- it holds something
                  have HEM := Lib.hid hem
                  have hne : (trAt t.l k).l ≠ [] := by intro e; rw [e] at hem; cases hem
                  obtain ⟨fb, hfb⟩ : ∃ fb, fieldB f ver true (trAt t.l k) = fb := ⟨_, rfl⟩
                  have hst2 := HST.out
                  have hle2 := HLE.out
                  rw [if_pos ⟨HTAG.out, hne⟩, hfb] at hst2 hle2
                  rw [enc_one, List.length_append, List.length_append, List.length_append] at hle2
                  have HST2 := Lib.hid hst2
                  have HLE2 := Lib.hid hle2
                  have hlb : fb.length + 16 ≤ lim2 := by omega
                  have cF : ∀ (w7 : World) (cs : List Value) (ts7 : List Value), B ≤ w7.heap.size → FldC w7 B f cs → TrC w7 B (trAt t.l k) ts7 → Calls Tryz.prog 32 #[.agg cs.toArray, .int .i64 ver, .bool true, .agg ts7.toArray] w7 (SpP 5 w7 fb) := fun w7 cs ts7 h1 h2 h3 => by
                    rw [← hfb]
                    exact HC.out w7 B cs ver (trAt t.l k) ts7 h1 h2 h3 (by rw [hfb]; exact hlb)
                  have CF := Lib.hid cF
                  clear hem hne hst2 hle2 cF hfb
                  go_region_with (first
                    | (go_at_call 33; refine cA.out.mono ?_; rintro e5 w5 ⟨cs5, rfl, ht5, hw5⟩; have HT5 := Lib.hid ht5; have HW5 := Lib.hid (((Only.refl (fun _ => False) W4).drew).trans hw5); obtain ⟨f0, f1, f2, f3, f4, f5, f6, f7, j0, j1, j2, j3, j4⟩ := keep13 (HW5.out.block _ HZ.out id) (HW5.out.block _ HZ7.out id) HS1.out; clear ht5 hw5; dsimp only)
                    | (go_at_call 35; refine (sp_usualF w5 B f _ (trAt t.l k) cs5 HKF.out HEM.out (HFd.out.keep ((O4.out.trans HW5.out).kept0 HBW.out)) HT5.out).mono ?_; rintro e6 w6 ⟨rfl, hw6⟩; have HW6 := Lib.hid (HW5.out.trans hw6); have HS6 := Lib.hid (keep13 (HW6.out.block _ HZ.out id) (HW6.out.block _ HZ7.out id) HS1.out); obtain ⟨r0, r1, r2, r3, r4, r5, r6, r7, q0, q1, q2, q3, q4⟩ := HS6.out; clear hw6)
                    | fail)
                  all_goals
                    have O6 := Lib.hid (O4.out.trans HW6.out)
                    have HZ6 := Lib.hid (Nat.lt_of_lt_of_le HZ.out HW6.out.size)
                    have HZ67 := Lib.hid (Nat.lt_of_lt_of_le HZ7.out HW6.out.size)
                    have HB6 : Hid (B ≤ w6.heap.size) := Lib.hid (Nat.le_trans HBW.out O6.out.size)
                    have cA2 := Lib.hid (sp_at w6.drew B t _ k HB6.out (TrC.keep (w := w) (w' := w6.drew) ((HOW.out.trans O6.out).drew.kept0 HB.out) HT.out))
                    clear r0 r1 r2 r3 r4 r5 r6 r7 q0 q1 q2 q3 q4 c0 c1' c2' c3' c4 c5 c6 c7 d0 d1 d2 d3 d4 f0 f1 f2 f3 f4 f5 f6 f7 j0 j1 j2 j3 j4
                    go_wp2_with fail
                    go_region_held3 (fun w' => w'.cell? ⟨wr.heap.size, 0, none⟩ = some (.int .i64 kind) ∧ w'.cell? ⟨wr.heap.size, 1, none⟩ = some (.int .i64 fr) ∧ w'.cell? ⟨wr.heap.size, 2, none⟩ = some (.int .i64 to) ∧ w'.cell? ⟨wr.heap.size, 3, none⟩ = some (.int .i64 nu) ∧ w'.cell? ⟨wr.heap.size, 4, none⟩ = some (.int .i64 (k2 : Int)) ∧ w'.cell? ⟨wr.heap.size, 5, none⟩ = some (.int .i64 df) ∧ w'.cell? ⟨wr.heap.size, 6, none⟩ = some (.int .i64 of) ∧ w'.cell? ⟨wr.heap.size, 7, none⟩ = some (.slice AF nF cF) ∧ w'.cell? ⟨w.heap.size, 0, none⟩ = some (.int .i64 n) ∧ w'.cell? ⟨w.heap.size, 1, none⟩ = some (.slice A1 n1 c1) ∧ w'.cell? ⟨w.heap.size, 2, none⟩ = some (.bool nl) ∧ w'.cell? ⟨w.heap.size, 3, none⟩ = some (.slice A2 n2 c2) ∧ w'.cell? ⟨w.heap.size, 4, none⟩ = some (.slice A3 n3 c3))
                      (first | exact HS6.out | exact HS7.out | exact HS8.out)
                      (first
                        | (go_at_call 33; refine cA2.out.mono ?_; rintro e7 w7 ⟨cs7, rfl, ht7, hw7⟩; have HT7 := Lib.hid ht7; have HW7 := Lib.hid (((Only.refl (fun _ => False) w6).drew).trans hw7); have HS7 := Lib.hid (keep13 (HW7.out.block _ HZ6.out id) (HW7.out.block _ HZ67.out id) HS6.out); clear ht7 hw7; dsimp only)
                        | (go_at_call 32; refine (CF.out w7 _ cs7 (Nat.le_trans HB6.out HW7.out.size) (HFd.out.keep ((O6.out.trans HW7.out).kept0 HBW.out)) HT7.out).mono ?_; rintro e8 w8 ⟨v8, rfl, ho8, hw8⟩; obtain ⟨A8, c8, rfl, _⟩ := ho8.oc.sl; have HF8 := Lib.hid ho8; have HW8 := Lib.hid hw8; have HS8 := Lib.hid (keep13 (hw8.block _ (Nat.lt_of_lt_of_le HZ6.out HW7.out.size) id) (hw8.block _ (Nat.lt_of_lt_of_le HZ67.out HW7.out.size) id) HS7.out); clear ho8 hw8; dsimp only))
                    all_goals
                      have O8 := Lib.hid (HW3.out.trans (O6.out.trans (HW7.out.trans HW8.out)))
                      have HQ7 := Lib.hid (HQ3.out.keep (O6.out.trans HW7.out))
                      have HQB8 : Hid (QB w7.heap.size w8.heap.size _) := Lib.hid (qb_of HQ7.out (Nat.le_refl _))
                      have HQ8 := Lib.hid (HQ7.out.keep HW8.out)
                      have HFB : Hid (∀ g, Value.ownBlock _ = some g → w7.heap.size ≤ g ∧ g < w8.heap.size) := Lib.hid (World.ownsRow.lt HF8.out)
                      have hk2v : k2 < 9223372036854775808 := by omega
                      have HK2V := Lib.hid hk2v
                      have hfl : fb.length ≤ 70368744177664 := by unfold lim2 at hlb; omega
                      have HFL : Hid (fb.length < 9223372036854775808) := Lib.hid (by omega)
                      have HL1 : Hid ((encTags TT).length + (uvEnc k2).length ≤ lim2) := Lib.hid (by have h8 := HLE2.out; omega)
                      have HL2' : Hid ((encTags TT ++ uvEnc k2).length + (uvEnc fb.length).length ≤ lim2) := Lib.hid (by have h8 := HLE2.out; rw [List.length_append]; omega)
                      have HL3 : Hid ((encTags TT ++ uvEnc k2 ++ uvEnc fb.length).length + fb.length ≤ lim2) := Lib.hid (by have h8 := HLE2.out; rw [List.length_append, List.length_append]; omega)
                      clear hk2v hlb HS1 HS6 HS7 HS8 HQ3 HQ7 HT7 HT5 HW5 HW6 HW7 HW8 O6 cA cA2 CF
                      go_wp2_with (first
                        | (at_builtin; refine wp_app_q rfl (.tmp 81) (.tmp 84) 22 rfl Tryz.underlying22 hi hz0 hz1 hz2 rfl HQ9.out rfl HV9.out O9.out.size HL1.out HQB8.out HS9.out ?_; intro v10 w10 ho10 hb10 hw10; have HQ10 := Lib.hid ho10; have HQB10 := Lib.hid hb10; have O10 := Lib.hid (O9.out.own (only_b0 hw10) (Nat.le_refl _)); have HF10 := Lib.hid (own_q2 HF9.out HFB.out hw10); have HS10 := Lib.hid (Nat.le_trans HS9.out hw10.size); clear ho10 hb10 hw10 HQ9 HV9 O9 HF9 HS9 HQB8)
                        | (at_builtin; refine wp_app_q rfl (.tmp 85) (.tmp 89) 22 rfl Tryz.underlying22 hi hz0 hz1 hz2 rfl HQ11.out rfl HV11.out O11.out.size HL2'.out HQB10.out HS11.out ?_; intro v12 w12 ho12 hb12 hw12; have HQ12 := Lib.hid ho12; have HQB12 := Lib.hid hb12; have O12 := Lib.hid (O11.out.own (only_b0 hw12) (Nat.le_refl _)); have HF12 := Lib.hid (own_q2 HF11.out HFB.out hw12); have HS12 := Lib.hid (Nat.le_trans HS11.out hw12.size); clear ho12 hb12 hw12 HQ11 HV11 O11 HF11 HS11 HQB10)
                        | (at_builtin; refine wp_app_q rfl (.tmp 90) (.tmp 91) 22 rfl Tryz.underlying22 hi hz0 hz1 hz2 rfl HQ12.out rfl HF12.out.oc O12.out.size HL3.out HQB12.out HS12.out ?_; intro v13 w13 ho13 hb13 hw13; have HQ13 := Lib.hid ho13; have O13 := Lib.hid (O12.out.own (only_b0 hw13) (Nat.le_refl _)); clear ho13 hb13 hw13 HQ12 O12 HF12 HS12 HQB12)
                        | (go_at_call 36; have hx := O8.out; clear hx; refine (sp_uvarint _ k2 HK2V.out).mono ?_; rintro e9 w9 ⟨v9, rfl, ho9, hw9⟩; have HV9 := Lib.hid ho9.oc; have O9 := Lib.hid (O8.out.trans hw9); have HQ9 := Lib.hid (HQ8.out.keep hw9); have HF9 := Lib.hid (HF8.out.keep hw9); have HS9 := Lib.hid hw9.size; clear ho9 hw9 O8 HQ8 HF8)
                        | (go_at_call 36; refine (sp_uvarint _ fb.length HFL.out).mono ?_; rintro e11 w11 ⟨v11, rfl, ho11, hw11⟩; have HV11 := Lib.hid ho11.oc; have O11 := Lib.hid (O10.out.trans hw11); have HQ11 := Lib.hid (HQ10.out.keep hw11); have HF11 := Lib.hid (HF10.out.keep hw11); have HS11 := Lib.hid (Nat.le_trans HS10.out hw11.size); clear ho11 hw11 O10 HQ10 HF10 HS10))
                      go_roundw
                      case rel => exact ⟨k + 1, hlt, rfl, by rw [HST2.out]; simp; exact hmw, by rw [HST2.out, enc_one]; simpa [List.append_assoc] using HQ13.out, O13.out⟩
                      case measure => exact msrI fs.length k _ _ hlt rfl rfl
                · have HEM := Lib.hid hem
                  have hst2 := HST.out
                  rw [if_neg (by rintro ⟨_, h⟩; exact h (List.isEmpty_iff.1 hem)), List.append_nil] at hst2
                  have HST2 := Lib.hid hst2
                  clear hem hst2
                  go_region_with (first
                    | (go_at_call 33; refine cA.out.mono ?_; rintro e5 w5 ⟨cs5, rfl, ht5, hw5⟩; have HT5 := Lib.hid ht5; have HW5 := Lib.hid (((Only.refl (fun _ => False) W4).drew).trans hw5); obtain ⟨f0, f1, f2, f3, f4, f5, f6, f7, j0, j1, j2, j3, j4⟩ := keep13 (HW5.out.block _ HZ.out id) (HW5.out.block _ HZ7.out id) HS1.out; clear ht5 hw5; dsimp only)
                    | (go_at_call 35; refine (sp_usualT w5 B f _ (trAt t.l k) cs5 HKF.out HEM.out (HFd.out.keep ((O4.out.trans HW5.out).kept0 HBW.out)) HT5.out).mono ?_; rintro e6 w6 ⟨rfl, hw6⟩; have HW6 := Lib.hid (HW5.out.trans hw6); obtain ⟨r0, r1, r2, r3, r4, r5, r6, r7, q0, q1, q2, q3, q4⟩ := keep13 (HW6.out.block _ HZ.out id) (HW6.out.block _ HZ7.out id) HS1.out; clear hw6)
                    | fail)
                  all_goals
                    have HQ6 := Lib.hid (HQ3.out.keep (O4.out.trans HW6.out))
                    have HR : Hid (Only (fun _ => False) w1 w6) := Lib.hid (HW3.out.trans (O4.out.trans HW6.out))
                    go_wp2_with fail
                    go_roundw
                    case rel => exact ⟨k + 1, hlt, rfl, by rw [HST2.out], by rw [HST2.out]; exact HQ6.out, HR.out⟩
                    case measure => exact msrI fs.length k _ _ hlt rfl rfl
              · have hteq' : (tag == (k2 : Int)) = false := by simpa using hteq
                have hst2 := HST.out
                rw [if_neg (by rintro ⟨h, _⟩; rw [HTAG.out] at h; exact hteq h), List.append_nil] at hst2
                have HST2 := Lib.hid hst2
                have hc4 : W4.cell? ⟨wr.heap.size, 4, none⟩ = some (.int .i64 tag) := HS1.out.2.2.2.2.1
                have HQ6 := Lib.hid (HQ3.out.keep O4.out)
                clear hst2
                go_wp2_with fail
                go_quiet (fail)
                go_wp2_with fail
                go_roundw
                case rel => exact ⟨k + 1, hlt, rfl, by rw [HST2.out], by rw [HST2.out]; exact HQ6.out.keep (only_drew (Only.refl _ _) _), only_drew (HW3.out.trans O4.out) _⟩
                case measure => exact msrI fs.length k _ _ hlt rfl rfl
            · have hk3 : k = fs.length := by omega
              subst hk3
              have hlt' : ¬ ((fs.length : Int) < (fs.length : Int)) := by omega
              go_wp2_with fail
              go_roundw
              case rel => exact ⟨k2 + 1, hlt2, rfl, rfl, HQ3.out, HW3.out⟩
              case measure => exact msrI N k2 _ _ hlt2 rfl rfl
        · have hk3 : k2 = N := by omega
          subst hk3
          have hlt' : ¬ ((k2 : Int) < (k2 : Int)) := by omega
          have HOW := Lib.hid (HW.out.trans (HW1.out.trans HWL.out))
          have HBX3 := Lib.hid (HBX.out.keep (b0 := w.heap.size + 1) (HW1.out.trans HWL.out).lift (Nat.lt_succ_self _))
          have HO1 := Lib.hid (HO.out.keep HW1.out)
          have cU := Lib.hid (sp_unknownG wr B fs _ (.slice A3 n3 c3) t.u (Nat.le_trans HB.out HOW.out.size) (HFs.out.keep (HOW.out.kept0 HB.out)) HG.out.tag hlen (trc_tgs (TrC.keep (HOW.out.kept0 HB.out) HT.out)))
          have y4 : wr.cell? ⟨w.heap.size, 4, none⟩ = some (.slice A3 n3 c3) := HBX3.out.2.2.2.2.2
          obtain ⟨us, hus⟩ : ∃ us, unkS (lstG fs fs.length) t.u = us := ⟨_, rfl⟩
          have HV : Hid (tgUn fs t.u = us.map takeV) := Lib.hid (by unfold tgUn; rw [hus])
          have hul : us.length ≤ 32767 := by rw [← hus]; have := unkS_lenG (lstG fs fs.length) t.u; simpa [most] using this
          rw [hus] at cU
          have hlow : w.heap.size + 1 ≤ w1.heap.size := by have h1 := HBX.out.1; have h2 := HW1.out.size; omega
          have hB1 : B ≤ w1.heap.size := by have := HB.out; omega
          generalize hK : kT1 fs ver t.l k2 = K at *
          have HLB : Hid ((encTags (K ++ us.map takeV)).length + ((toG fs ver true t.l fs.length).length + (uvEnc (K.length + us.length)).length) + 16 ≤ lim2) := Lib.hid (by have h := HLT.out; rw [HV.out, HKN.out] at h; simp only [List.length_append, List.length_map] at h ⊢; omega)
          have hKl : K.length ≤ 70368744177664 := by
            have h1 := encTags_many K
            have h2 := HLB.out
            rw [encTags_app, List.length_append] at h2
            unfold lim2 at h2
            omega
          clear HBX hbox hus hK HO HB
          go_wp2_with (go_at_call 37; refine cU.out.mono ?_; rintro e2 w2 ⟨vv, rfl, ht2, hw2⟩; obtain ⟨AV, cV, rfl⟩ := ht2.form; have HT2 := Lib.hid ht2; have HW2 := Lib.hid hw2; clear ht2 hw2 cU)
          obtain ⟨lo, hlo⟩ : ∃ lo, wr.heap.size = lo := ⟨_, rfl⟩
          rw [hlo] at HT2
          have HQB2 : Hid (QB lo w2.heap.size _) := Lib.hid (by rw [← hlo]; exact qb_of HQ.out (Nat.le_refl _))
          have HQ2 := Lib.hid (HQ.out.keep HW2.out)
          have O12 := Lib.hid (HWL.out.trans HW2.out)
          have h12 : w1.heap.size ≤ w2.heap.size := O12.out.size
          have HO2 := Lib.hid (HO1.out.keep O12.out)
          have O02 := Lib.hid (HOW.out.trans HW2.out)
          have hout : ∀ g, Value.ownBlock _ = some g → g < w1.heap.size := fun g h => (World.ownsRow.lt HO1.out g h).2
          have HOUT := Lib.hid hout
          clear y4 HWL HQ HW2 hlo HOW HO1 hout
          go_loopw [10, 11, 102] (fun q m i wl => ∃ k : Nat, k ≤ us.length ∧ i = .int .i64 k ∧ m = .int .i64 ((K.length + k : Nat) : Int) ∧ Own 5 w1.heap.size wl q (encTags (K ++ (us.map takeV).take k)) ∧ QB lo w2.heap.size q ∧ Only (fun j => w1.heap.size ≤ j ∧ (j < lo ∨ w2.heap.size ≤ j)) w2 wl) (fun _ _ i _ => us.length - (intOf i).toNat)
          case atStart => exact ⟨0, Nat.zero_le _, rfl, rfl, by have := HQ2.out; simpa using this, HQB2.out, Only.refl _ _⟩
          case round =>
            obtain ⟨k, hk, rfl, hm, hq, hqb, hwl⟩ := hrel
            subst hm
            have HQ := Lib.hid hq
            have HQB := Lib.hid hqb
            have HWL := Lib.hid hwl
            have hBw : B ≤ wr.heap.size := by have := hwl.size; omega
            have h2r : w2.heap.size ≤ wr.heap.size := hwl.size
            by_cases hlt : k < us.length
            · obtain ⟨b, A1, n1, c1, rfl, hlb, hbh, hk32, hocx, ck, cx⟩ := (HT2.out.keep (hwl.kept (Nat.le_trans hB1 h12) (fun j h1 h2 => by have := h2.1; omega)) (fun j h1 h2 => hwl.block j h2 (by omega))).at_ hlt
              have hstep := encT_stepK (K := K) hlt
              have hle := encT_leK K us (k + 1)
              rw [hstep, List.length_append, List.length_append, List.length_append] at hle
              have HST := Lib.hid hstep
              have HLE := Lib.hid hle
              have HXO := Lib.hid hocx
              clear hocx hstep hle hq hqb hwl
              generalize us[k] = uk at *
              obtain ⟨key, val⟩ := uk
              simp only at ck cx hk32 HXO HST HLE
              have cW := Lib.hid (fun obj => sp_whole (wr.alloc obj) B _ _ (HXO.out.keep (((Only.refl (fun _ => False) wr).alloc obj).kept0 hBw)))
              have hlt' : (k : Int) < (us.length : Int) := by omega
              have hm : (val.take most).length ≤ 32767 := by simp [most]; omega
              generalize hvt : val.take most = vt at *
              generalize htk : encTags (K ++ (us.map takeV).take k) = tk at *
              have hbw : b < wr.heap.size := by omega
              have hkey : key < 9223372036854775808 := by omega
              have hvl : vt.length < 9223372036854775808 := by omega
              have hmw : wrap64 (((K.length + k : Nat) : Int) + 1) = ((K.length + k : Nat) : Int) + 1 := w64s (Nat.le_trans (Nat.add_le_add hKl (Nat.le_trans hk hul)) (by decide))
              have HL1 : Hid (tk.length + (uvEnc key).length ≤ lim2) := Lib.hid (by have h7 := HLB.out; have h8 := HLE.out; omega)
              have HL2 : Hid ((tk ++ uvEnc key).length + (uvEnc vt.length).length ≤ lim2) := Lib.hid (by have h7 := HLB.out; have h8 := HLE.out; rw [List.length_append]; omega)
              have HL3 : Hid ((tk ++ uvEnc key ++ uvEnc vt.length).length + vt.length ≤ lim2) := Lib.hid (by have h7 := HLB.out; have h8 := HLE.out; rw [List.length_append, List.length_append]; omega)
              have HKEY := Lib.hid hkey
              have HVL := Lib.hid hvl
              have HB1 := Lib.hid hB1
              have H12 := Lib.hid h12
              clear htk hvt hkey hvl
              go_wp2_with (first
                | (go_at_call 38; refine (cW.out _).mono ?_; rintro e3 w3 ⟨v3, rfl, ho3, rfl⟩; obtain ⟨A4, c4, rfl, _⟩ := ho3.sl; have HO3 := Lib.hid ho3; have O3 := Lib.hid (HWL.out.trans ((Only.refl (fun j => w1.heap.size ≤ j ∧ (j < lo ∨ w2.heap.size ≤ j)) wr).alloc (.cells #[.int .u32 key, .slice A1 n1 c1] 59))); have HQ3 := Lib.hid (HQ.out.keep ((Only.refl (fun _ => False) wr).alloc (.cells #[.int .u32 key, .slice A1 n1 c1] 59))); clear ho3 HWL HQ)
                | (at_builtin; refine wp_app_q rfl (.tmp 109) (.tmp 113) 22 rfl Tryz.underlying22 hi hz0 hz1 hz2 rfl HQ4.out rfl HV4.out (Nat.le_trans H12.out O4.out.size) HL1.out HQB.out O4.out.size ?_; intro v5 w5 ho5 hb5 hw5; have HQ5 := Lib.hid ho5; have HQB5 := Lib.hid hb5; have O5 := Lib.hid (O4.out.trans hw5); have HX5 := Lib.hid (oc_q2 HX4.out (Nat.le_trans HB1.out (Nat.le_trans H12.out O4.out.size)) hw5 HB1.out); clear ho5 hb5 hw5 HQ4 HV4 O4 HX4)
                | (at_builtin; refine wp_app_q rfl (.tmp 114) (.tmp 118) 22 rfl Tryz.underlying22 hi hz0 hz1 hz2 rfl HQ6.out rfl HV6.out (Nat.le_trans H12.out O6.out.size) HL2.out HQB5.out O6.out.size ?_; intro v7 w7 ho7 hb7 hw7; have HQ7 := Lib.hid ho7; have HQB7 := Lib.hid hb7; have O7 := Lib.hid (O6.out.trans hw7); have HX7 := Lib.hid (oc_q2 HX6.out (Nat.le_trans HB1.out (Nat.le_trans H12.out O6.out.size)) hw7 HB1.out); clear ho7 hb7 hw7 HQ6 HV6 O6 HX6)
                | (at_builtin; refine wp_app_q rfl (.tmp 119) (.tmp 120) 22 rfl Tryz.underlying22 hi hz0 hz1 hz2 rfl HQ7.out rfl HX7.out (Nat.le_trans H12.out O7.out.size) HL3.out HQB7.out O7.out.size ?_; intro v8 w8 ho8 hb8 hw8; have HQ8 := Lib.hid ho8; have HQB8 := Lib.hid hb8; have O8 := Lib.hid (O7.out.trans hw8); clear ho8 hb8 hw8 HQ7 HX7 O7)
                | (go_at_call 36; have hx := O3.out; clear hx; refine (sp_uvarint _ key HKEY.out).mono ?_; rintro e4 w4 ⟨v4, rfl, ho4, hw4⟩; have HV4 := Lib.hid ho4.oc; have O4 := Lib.hid (O3.out.trans (hw4.mono fun _ _ h => h.elim)); have HQ4 := Lib.hid (HQ3.out.keep hw4); have HX4 := Lib.hid (HO3.out.keep (hw4.kept0 (Nat.le_trans HB1.out (Nat.le_trans H12.out O3.out.size)))); clear ho4 hw4 O3 HQ3 HO3)
                | (go_at_call 36; refine (sp_uvarint _ vt.length HVL.out).mono ?_; rintro e6 w6 ⟨v6, rfl, ho6, hw6⟩; have HV6 := Lib.hid ho6.oc; have O6 := Lib.hid (O5.out.trans (hw6.mono fun _ _ h => h.elim)); have HQ6 := Lib.hid (HQ5.out.keep hw6); have HX6 := Lib.hid (HX5.out.keep (hw6.kept0 (Nat.le_trans HB1.out (Nat.le_trans H12.out O5.out.size)))); clear ho6 hw6 O5 HQ5 HX5))
              go_roundw
              case rel => exact ⟨k + 1, hlt, rfl, by rw [show K.length + (k + 1) = K.length + k + 1 from rfl]; exact congrArg (Value.int .i64) hmw, by rw [HST.out]; simpa [List.append_assoc] using HQ8.out, HQB8.out, O8.out⟩
              case measure => exact msrI us.length k _ _ hlt rfl rfl
            · have hk2 : k = us.length := by omega
              subst hk2
              have hlt' : ¬ ((us.length : Int) < (us.length : Int)) := by omega
              have HQ' : Hid (Own 5 w1.heap.size wr _ (encTags (K ++ us.map takeV))) := Lib.hid (by have h := HQ.out; rwa [show (us.map takeV).take us.length = us.map takeV from List.take_of_length_le (by simp)] at h)
              have hout3 : Only (fun j => w1.heap.size ≤ j) w2 wr := only_b0 HWL.out
              have HO3 := Lib.hid (own_blocks HO2.out fun g hg => HWL.out.block g (World.ownsRow.lt HO2.out g hg).2 (by have := HOUT.out g hg; omega))
              have O3 := Lib.hid (O02.out.own hout3 (by omega))
              have hwu : K.length + us.length < 9223372036854775808 := by omega
              have HWU := Lib.hid hwu
              have HL1 : Hid ((toG fs ver true t.l fs.length).length + (uvEnc (K.length + us.length)).length ≤ lim2) := Lib.hid (by have h7 := HLB.out; omega)
              have HL2 : Hid ((toG fs ver true t.l fs.length ++ uvEnc (K.length + us.length)).length + (encTags (K ++ us.map takeV)).length ≤ lim2) := Lib.hid (by have h7 := HLB.out; rw [List.length_append]; omega)
              have HS3 : Hid (w.heap.size + 1 ≤ wr.heap.size) := Lib.hid (by omega)
              clear hq hqb hwl HQ HQB HWL HO2 O02 hwu hout3
              go_wp2_with (first
                | (go_at_call 36; refine (sp_uvarint _ (K.length + us.length) HWU.out).mono ?_; rintro e4 w4 ⟨v4, rfl, ho4, hw4⟩; have HV4 := Lib.hid ho4.oc; have O4 := Lib.hid (O3.out.trans hw4); have HO4 := Lib.hid (HO3.out.keep hw4); have HQ4 := Lib.hid (HQ'.out.keep hw4); have HZ4 := Lib.hid hw4.size; clear ho4 hw4 O3 HO3 HQ')
                | (at_builtin; refine wp_app_ocg rfl (.tmp 125) (.tmp 128) 22 rfl Tryz.underlying22 hi hz0 hz1 hz2 rfl HO4.out rfl HV4.out (Nat.le_trans HS3.out HZ4.out) HL1.out ?_; intro v5 w5 ho5 hw5 hg5; have HO5 := Lib.hid ho5; have HQ5 := Lib.hid (own_blocks HQ4.out fun g hg => hg5.block g (World.ownsRow.lt HQ4.out g hg).2 (fun e => Nat.lt_irrefl _ (Nat.lt_of_lt_of_le (HOUT.out g e.symm) (World.ownsRow.lt HQ4.out g hg).1))).oc; have HZ5 := Lib.hid hw5.size; have HW5 := Lib.hid hw5; clear ho5 hw5 hg5 HO4 HQ4 HV4)
                | (at_builtin; refine wp_app_oc rfl (.tmp 129) (.tmp 130) 22 rfl Tryz.underlying22 hi hz0 hz1 hz2 rfl HO5.out rfl HQ5.out (Nat.le_trans (Nat.le_trans HS3.out HZ4.out) HZ5.out) HL2.out ?_; intro v6 w6 ho6 hw6; have HO6 := Lib.hid ho6; have HW6 := Lib.hid (O4.out.own (HW5.out.trans hw6) (Nat.le_succ _)); clear ho6 hw6 HO5 HQ5))
              go_ret
              exact ⟨_, rfl, by rw [HV.out, HKN.out, List.length_append, List.length_map, ← List.append_assoc]; exact HO6.out.lower (Nat.le_succ _), HW6.out⟩

end Go.Proofs.YtpefipjgcpchaaaGreatDoorR.Kf
