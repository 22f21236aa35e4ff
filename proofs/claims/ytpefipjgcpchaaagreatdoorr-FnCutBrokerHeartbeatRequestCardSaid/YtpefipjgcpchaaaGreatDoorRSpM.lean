/- What the reference writes of a message with tagged lists: the whole of it, in plain terms. -/
import Derived.Test.YtpefipjgcpchaaaGreatDoorRSpL
import Derived.Test.YtpefipjgcpchaaaGreatDoorRLawA
namespace Go.Proofs.YtpefipjgcpchaaaGreatDoorR.Kf
set_option linter.unusedVariables false
set_option linter.unusedSimpArgs false
open Go Go.RowKit

set_option maxRecDepth 100000 in
theorem sp_writeT (w : World) (B : Nat) (fs : List Fld) (v : Value) (fx ver : Int) (t : Tr) (ts : List Value) (hB : B ≤ w.heap.size) (hF : FldsC w B fs v) (hT : TrC w B t ts) {out : List UInt8} (hp : ∀ w', Only (fun _ => False) w w' → Calls Tryz.prog 18 #[v, .int .i64 ver, .bool (fxOf fx ver), .agg ts.toArray] w' (SpP 5 w' out)) :
    Calls Tryz.prog 7 #[.agg #[v, .int .i64 fx], .int .i64 ver, .agg ts.toArray] w (SpP 5 w out) := by
  obtain ⟨n, A1, n1, c1, nl, A2, n2, c2, A3, n3, c3, rfl⟩ := hT.form
  obtain ⟨f, hs, _⟩ := id hF
  obtain ⟨AS, cS, rfl, _⟩ := hs.sl
  have hp' := hp
  clear hp hF hT hs hB
  unfold fxOf at hp'
  by_cases h0 : 0 ≤ fx
  · by_cases h1 : fx ≤ ver
    · have t0 : decide (0 ≤ fx) = true := by simpa using h0
      have t1 : decide (fx ≤ ver) = true := by simpa using h1
      rw [t0, t1] at hp'
      have HP := Lib.hid hp'
      clear hp' h0 h1
      go_enter Tryz.func7, Tryz.ntmps7
      go_wp2_with (go_at_call 18; refine (HP.out _ ?_).mono ?_; (exact ((Only.refl _ _).alloc _).alloc _); rintro e1 w1 h1; have H1 := Lib.hid (h1.up (((Only.refl _ _).alloc _).alloc _ : Only (fun _ => False) w _)); clear h1; obtain ⟨v1, rfl, h1⟩ := H1.out; clear h1)
      go_ret
      exact H1.out
    · have t0 : decide (0 ≤ fx) = true := by simpa using h0
      have t1 : decide (fx ≤ ver) = false := by simpa using h1
      rw [t0, t1] at hp'
      have HP := Lib.hid hp'
      clear hp' h0 h1
      go_enter Tryz.func7, Tryz.ntmps7
      go_wp2_with (go_at_call 18; refine (HP.out _ ?_).mono ?_; (exact ((Only.refl _ _).alloc _).alloc _); rintro e1 w1 h1; have H1 := Lib.hid (h1.up (((Only.refl _ _).alloc _).alloc _ : Only (fun _ => False) w _)); clear h1; obtain ⟨v1, rfl, h1⟩ := H1.out; clear h1)
      go_ret
      exact H1.out
  · have t0 : decide (0 ≤ fx) = false := by simpa using h0
    rw [t0] at hp'
    have HP := Lib.hid hp'
    clear hp' h0
    go_enter Tryz.func7, Tryz.ntmps7
    go_wp2_with (go_at_call 18; refine (HP.out _ ?_).mono ?_; (exact ((Only.refl _ _).alloc _).alloc _); rintro e1 w1 h1; have H1 := Lib.hid (h1.up (((Only.refl _ _).alloc _).alloc _ : Only (fun _ => False) w _)); clear h1; obtain ⟨v1, rfl, h1⟩ := H1.out; clear h1)
    go_ret
    exact H1.out

theorem sp_writeG (w : World) (B : Nat) (fs : List Fld) (v : Value) (fx ver : Int) (t : Tr) (ts : List Value) (hB : B ≤ w.heap.size) (hF : FldsC w B fs v) (hT : TrC w B t ts) (hG : GsP (fxOf fx ver) fs) (hl : (partGB fs ver (fxOf fx ver) t).length + 16 ≤ lim2) :
    Calls Tryz.prog 7 #[.agg #[v, .int .i64 fx], .int .i64 ver, .agg ts.toArray] w (SpP 5 w (partGB fs ver (fxOf fx ver) t)) := by
  refine sp_writeT w B fs v fx ver t ts hB hF hT fun w' ho => ?_
  have h1 : B ≤ w'.heap.size := Nat.le_trans hB ho.size
  have h2 := hF.keep (ho.kept0 hB)
  have h3 := hT.keep (ho.kept0 hB)
  generalize fxOf fx ver = flex at *
  cases flex
  · exact part_g_false fs hG w' B v ver t ts h1 h2 h3 hl
  · exact part_g_true fs hG w' B v ver t ts h1 h2 h3 hl
theorem fieldG (flex : Bool) (f : Fld) (h : fldsGood f.sub = true) (hl : fldsLens f.sub = true) (hn : f.sub.length ≤ 65536) : FieldC flex f := sp_field flex f fun _ => part_any flex f.sub h hl hn
theorem gsP_of {flex : Bool} {fs : List Fld} (hn : fs.length ≤ 65536) (h1 : (fs.all fun f => decide (f.tag ≤ 1000)) = true) (h2 : (fs.all fun f => decide (f.tag < 0) || decide (f.kind = 11)) = true) (h3 : (fs.all fun f => fldsGood f.sub && fldsLens f.sub && decide (f.sub.length ≤ 65536)) = true) : GsP flex fs where
  len := hn
  tag := fun f hf => by simpa using List.all_eq_true.1 h1 f hf
  k11 := fun f hf h0 => by
    have := List.all_eq_true.1 h2 f hf
    simp at this
    rcases this with h | h
    · omega
    · exact h
  f := fun f hf => by
    have := List.all_eq_true.1 h3 f hf
    simp only [Bool.and_eq_true, decide_eq_true_eq] at this
    exact fieldG flex f this.1.1 this.1.2 this.2

/-! ### the fields without tags -/
theorem toG_plain (ps ts : List Fld) (hp : ∀ f ∈ ps, f.tag < 0) (ver : Int) (flex : Bool) (l : List Tr) : ∀ k, k ≤ ps.length → toG (ps ++ ts) ver flex l k = toB ps ver flex l k
  | 0, _ => rfl
  | k + 1, hk => by
    have hk' : k < ps.length := hk
    rw [toG_step (by rw [List.length_append]; omega), toB_step hk', toG_plain ps ts hp ver flex l k (by omega)]
    have e : (ps ++ ts)[k]'(by rw [List.length_append]; omega) = ps[k] := List.getElem_append_left hk'
    rw [e]
    unfold oneG
    rw [if_pos (hp _ (List.getElem_mem hk'))]
theorem toG_tail (ps ts : List Fld) (ht : ∀ f ∈ ts, 0 ≤ f.tag) (ver : Int) (flex : Bool) (l : List Tr) : ∀ j, j ≤ ts.length → toG (ps ++ ts) ver flex l (ps.length + j) = toG (ps ++ ts) ver flex l ps.length
  | 0, _ => rfl
  | j + 1, hj => by
    have hj' : j < ts.length := hj
    have hl : ps.length + j < (ps ++ ts).length := by rw [List.length_append]; omega
    rw [show ps.length + (j + 1) = ps.length + j + 1 from rfl, toG_step hl, toG_tail ps ts ht ver flex l j (by omega)]
    have e : (ps ++ ts)[ps.length + j]'hl = ts[j] := by rw [List.getElem_append_right (by omega)]; simp
    rw [e]
    unfold oneG
    have h0 := ht _ (List.getElem_mem hj')
    rw [if_neg (by omega), List.append_nil]
theorem toG_split {fs ps ts : List Fld} (e : fs = ps ++ ts) (hp : (ps.all fun f => decide (f.tag < 0)) = true) (ht : (ts.all fun f => decide (0 ≤ f.tag)) = true) (ver : Int) (flex : Bool) (l : List Tr) : toG fs ver flex l fs.length = fieldsB ps ver flex l := by
  subst e
  have h1 : ∀ f ∈ ps, f.tag < 0 := fun f hf => by simpa using List.all_eq_true.1 hp f hf
  have h2 : ∀ f ∈ ts, 0 ≤ f.tag := fun f hf => by simpa using List.all_eq_true.1 ht f hf
  rw [List.length_append, toG_tail ps ts h2 ver flex l ts.length (Nat.le_refl _), toG_plain ps ts h1 ver flex l ps.length (Nat.le_refl _), toB_all]
/-- The form of fields, no tags behind them. -/
def fieldsWN : List Fld → Int → Bool → W
  | [], _, _ => .unit
  | f :: fs, v, flex => if hasV f.fr f.to v then .pair (fieldW f v flex) (fieldsWN fs v flex) else fieldsWN fs v flex
def fieldsVN : List Fld → Int → Bool → List Tr → Val
  | [], _, _, _ => .unit
  | f :: fs, v, flex, l => if hasV f.fr f.to v then .pair (fieldV f v flex (l.headD tr0)) (fieldsVN fs v flex l.tail) else fieldsVN fs v flex l.tail
theorem fieldsN_enc : ∀ (fs : List Fld) (v : Int) (flex : Bool) (l : List Tr), enc (fieldsWN fs v flex) (fieldsVN fs v flex l) = fieldsB fs v flex l
  | [], v, flex, l => by simp [fieldsWN, fieldsVN, fieldsB, enc]
  | f :: fs, v, flex, l => by
    simp only [fieldsWN, fieldsVN, fieldsB]
    split
    · simp only [enc]
      rw [fieldB_enc f v flex _, fieldsN_enc fs v flex l.tail]
    · simp only [List.nil_append]
      exact fieldsN_enc fs v flex l.tail
theorem fieldsN_wf : ∀ (fs : List Fld) (v : Int) (flex : Bool) (l : List Tr), (∀ x ∈ l, TrOk x) → wf (fieldsWN fs v flex) (fieldsVN fs v flex l)
  | [], v, flex, l, _ => by simp [fieldsWN, fieldsVN, wf]
  | f :: fs, v, flex, l, hl => by
    simp only [fieldsWN, fieldsVN]
    split
    · exact ⟨fieldV_wf f v flex _ (TrOk.head hl), fieldsN_wf fs v flex l.tail (fun x hx => hl x (List.mem_of_mem_tail hx))⟩
    · exact fieldsN_wf fs v flex l.tail (fun x hx => hl x (List.mem_of_mem_tail hx))
theorem plainV {ps : List Fld} {v : Int} {flex : Bool} {t : Tr} (ht : TrOk t) {w : W} (hs : W.sub (fieldsWN ps v flex) w = true) : ∃ x, wf w x ∧ enc w x = fieldsB ps v flex t.l := by
  have h1 := W.sub_wf _ w _ hs (fieldsN_wf ps v flex t.l ht.l)
  exact ⟨_, h1.1, h1.2.trans (fieldsN_enc ps v flex t.l)⟩
/-! ### a tagged list; unknown tags -/
theorem tagV {f : Fld} (hk : f.kind = 11) (hn : f.nu < 0) {ver : Int} {t : Tr} (ht : TrOk t) (hne : t.l ≠ []) {w : W} (hs : W.sub (fieldW f ver true) w = true) : ∃ vs, 0 < vs.length ∧ wf w (.list (some vs)) ∧ enc w (.list (some vs)) = fieldB f ver true t := by
  obtain ⟨kind, fr, to, nu, tag, df, of, sub⟩ := f
  have hk' : kind = 11 := hk
  have hn' : nu < 0 := hn
  subst hk'
  have hm : mayN nu ver = false := by unfold mayN; simp; omega
  have h1 := W.sub_wf _ w _ hs (fieldV_wf _ ver true t ht)
  have e : fieldV (.mk 11 fr to nu tag df of sub) ver true t = .list (some ((t.l.take most).map fun x => if of = 10 then fieldsV sub ver true x.l x.u else scalV of false x)) := by
    simp only [fieldV, if_pos, hm, Bool.and_false, Bool.false_eq_true, if_false]
  have h2 := fieldB_enc (.mk 11 fr to nu tag df of sub) ver true t
  rw [e] at h1 h2
  refine ⟨_, ?_, h1.1, h1.2.trans h2⟩
  rw [List.length_map, List.length_take]
  have : 0 < t.l.length := List.length_pos_iff.2 hne
  unfold most
  omega
theorem unk_upL (L : Nat) : ∀ (l acc : List (Nat × List UInt8)), (∀ x ∈ l, x.1 < 4294967296) → upTags L (acc.map takeV) → upTags L ((l.foldl (fun out x => if x.1 < L then out else insU x out) acc).map takeV)
  | [], acc, _, h => h
  | x :: l, acc, hl, h => by
    simp only [List.foldl_cons]
    refine unk_upL L l _ (fun y hy => hl y (by simp [hy])) ?_
    by_cases hx : x.1 < L
    · rw [if_pos hx]; exact h
    · rw [if_neg hx]
      exact insU_up x (hl x (by simp)) L acc (by omega) h
theorem tgUn_up (fs : List Fld) {t : Tr} (ht : TrOk t) : upTags (lstG fs fs.length) (tgUn fs t.u) :=
  unk_upL _ _ [] (fun x hx => ht.u x (List.mem_of_mem_take hx)) trivial
theorem tgUn_len (fs : List Fld) (u : List (Nat × List UInt8)) : (tgUn fs u).length ≤ 32767 := by
  have := unkS_lenG (lstG fs fs.length) u
  unfold tgUn
  rw [List.length_map]
  simpa [most] using this
theorem upTags_ge : ∀ (l : List (Nat × List UInt8)) (b : Nat), upTags b l → ∀ x ∈ l, b ≤ x.1
  | [], _, _, x, hx => by cases hx
  | (k, v) :: l, b, h, x, hx => by
    rcases List.mem_cons.1 hx with rfl | hx
    · exact h.1
    · have := upTags_ge l (k + 1) h.2.2.2 x hx
      have := h.1
      omega
theorem TrOk.at_ {t : Tr} (h : TrOk t) (i : Nat) : TrOk (trAt t.l i) := by
  unfold trAt
  cases e : t.l[i]? with
  | none => exact TrOk.zero
  | some x => exact h.l x (List.mem_of_getElem? e)
/-! ### how long -/
theorem trAt_size (t : Tr) (i : Nat) : (trAt t.l i).size ≤ t.size := by
  unfold trAt
  cases e : t.l[i]? with
  | none => have := t.size_pos; simpa [tr0, Tr.size, trsSize, tgsSize] using this
  | some x => have := trsSize_mem (List.mem_of_getElem? e); have := t.size_l; simp; omega
theorem un_cst (fs : List Fld) (t : Tr) : (encTags (tgUn fs t.u)).length ≤ 21 * t.size := by
  have h2 := enc_tgs (tgUn fs t.u)
  have h3 := tgs_map (unkS (lstG fs fs.length) t.u)
  have h4 := tgs_fold (lstG fs fs.length) (t.u.take most) []
  have h5 := tgs_take most t.u
  have h6 := t.size_u
  have h7 : tgsSize (tgUn fs t.u) ≤ tgsSize t.u := by
    refine Nat.le_trans h3 (Nat.le_trans h4 ?_)
    simp only [tgsSize, Nat.zero_add]; exact h5
  omega
theorem un_bnd (fs : List Fld) (u : List (Nat × List UInt8)) : (encTags (tgUn fs u)).length ≤ tagsMax := by
  have h2 := tags_len_le 32767 (tgUn fs u) (fun x hx => by
    simp only [tgUn, List.mem_map] at hx
    obtain ⟨y, _, rfl⟩ := hx
    simp [takeV, most]; omega)
  have h3 := tgUn_len fs u
  have h4 : (tgUn fs u).length * (20 + 32767) ≤ 32767 * (20 + 32767) := Nat.mul_le_mul_right _ h3
  unfold tagsMax; omega
theorem plain_cst (ps : List Fld) (v : Int) (flex : Bool) (t : Tr) : (fieldsB ps v flex t.l).length ≤ fldsCst ps * t.size := by
  have := fieldsOnly_cst ps v flex t.l t.size (fun x hx => by have := trsSize_mem hx; have := t.size_l; omega) t.size_pos
  omega
theorem plain_bnd (ps : List Fld) (v : Int) (flex : Bool) (t : Tr) : (fieldsB ps v flex t.l).length ≤ fldsBnd flex ps := by
  have := fields_bnd ps v flex t.l []
  rw [List.length_append] at this
  omega
theorem tagf_cst (f : Fld) (v : Int) (t : Tr) (i : Nat) : (fieldB f v true (trAt t.l i)).length ≤ Fld.cst f * t.size := Nat.le_trans (field_cst f v true _) (Nat.mul_le_mul_left _ (trAt_size t i))
/-- A list that is there or not. -/
def kn1 (k : Nat) (l : List Tr) (s : List UInt8) : List (Nat × List UInt8) := if l ≠ [] then [(k, s)] else []
theorem kn1_len (k : Nat) (l : List Tr) (s : List UInt8) : (encTags (kn1 k l s)).length ≤ 20 + s.length := by
  unfold kn1
  split
  · have h1 := uvEnc_max k
    have h2 := uvEnc_max s.length
    simp [encTags]; omega
  · simp [encTags]
theorem partG_len {fs : List Fld} {ver : Int} {flex : Bool} {t : Tr} {a b c : Nat} (h1 : (toG fs ver flex t.l fs.length).length ≤ a) (h2 : (encTags (tgKn fs ver t.l)).length ≤ b) (h3 : (encTags (tgUn fs t.u)).length ≤ c) : (partGB fs ver flex t).length ≤ a + b + c + 10 := by
  unfold partGB
  rw [List.length_append]
  cases flex
  · simp; omega
  · have h4 := uvEnc_max (tgKn fs ver t.l ++ tgUn fs t.u).length
    rw [if_pos rfl, encTags_app]
    generalize uvEnc (tgKn fs ver t.l ++ tgUn fs t.u).length = uu at *
    rw [List.length_append, List.length_append]
    omega
end Go.Proofs.YtpefipjgcpchaaaGreatDoorR.Kf
