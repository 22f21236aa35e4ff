/- Whatever a EndQuorumEpochResponse says, written by the reference at a version that it has, is read, and written back octet by octet: the law FnAgainEndQuorumEpochResponse returns true where what it reads is of bulk at most 1048576 and lets its arguments be. Condition: the errors' variable reads as its initialiser lays it (tied to the program's text). -/
import Derived.Test.YtpefipjgcpchaaaGreatDoorRMEndQuorumEpochResponse
import Derived.Test.YtpefipjgcpchaaaGreatDoorRYEndQuorumEpochResponse
import Derived.Test.YtpefipjgcpchaaaGreatDoorRSpM
import Derived.Test.YtpefipjgcpchaaaGreatDoorRLawB
import Derived.Test.YtpefipjgcpchaaaGreatDoorRPG
import Derived.Test.YtpefipjgcpchaaaGreatDoorRRowC
namespace Go.Proofs.YtpefipjgcpchaaaGreatDoorR.Kf.LFnAgainEndQuorumEpochResponse
set_option linter.unusedVariables false
set_option linter.unusedSimpArgs false
open Go Go.RowKit MEndQuorumEpochResponse

def mx : Int := 1
def ps : List Fld := [.mk 2 0 (-1) (-1) (-1) 0 0 [], .mk 11 0 (-1) (-1) (-1) 0 10 YEndQuorumEpochResponse.fs24]
def tf0 : Fld := .mk 11 0 (-1) (-1) 0 0 10 YEndQuorumEpochResponse.fs25
def tfs : List Fld := [tf0]
theorem okm (ver : Int) (h0 : 0 ≤ ver) (h1 : ver ≤ mx) : (r.m ver (decide (ver ≥ (1)))).w.ok = true := by
  have : ver = 0 ∨ ver = 1 := by unfold mx at h1; omega
  rcases this with rfl | rfl <;> rfl
theorem okg (ver : Int) (h0 : 0 ≤ ver) (h1 : ver ≤ mx) (hf : decide (ver ≥ (1)) = true) : ∀ g ∈ gs.map (·.1), (g.m ver true).w.ok = true := by
  intro g hg
  simp only [gs, List.map_cons, List.map_nil, List.mem_cons, List.not_mem_nil, or_false] at hg
  have : ver = 0 ∨ ver = 1 := by unfold mx at h1; omega
  rcases hg with rfl <;> rcases this with rfl | rfl <;> first | rfl | exact absurd hf (by decide)
theorem subm (ver : Int) (h0 : 0 ≤ ver) (h1 : ver ≤ mx) : W.sub (fieldsWN ps ver (decide (ver ≥ (1)))) (r.m ver (decide (ver ≥ (1)))).w = true := by
  have : ver = 0 ∨ ver = 1 := by unfold mx at h1; omega
  rcases this with rfl | rfl <;> decide
theorem posm (ver : Int) (h0 : 0 ≤ ver) (h1 : ver ≤ mx) : (r.m ver (decide (ver ≥ (1)))).w.pos = true := by
  have : ver = 0 ∨ ver = 1 := by unfold mx at h1; omega
  rcases this with rfl | rfl <;> rfl
theorem fxe (ver : Int) (h0 : 0 ≤ ver) (h1 : ver ≤ mx) : fxOf YEndQuorumEpochResponse.fx ver = decide (ver ≥ (1)) := by
  have : ver = 0 ∨ ver = 1 := by unfold mx at h1; omega
  rcases this with rfl | rfl <;> rfl
set_option maxRecDepth 100000 in
theorem partm (flex : Bool) : GsP flex YEndQuorumEpochResponse.fs := gsP_of (by decide) (by decide) (by decide) (by decide)
set_option maxRecDepth 100000 in
theorem lstm : lstG YEndQuorumEpochResponse.fs YEndQuorumEpochResponse.fs.length = 1 := by decide
theorem subg0 (ver : Int) (h0 : 0 ≤ ver) (h1 : ver ≤ mx) (hf : decide (ver ≥ (1)) = true) : W.sub (fieldW tf0 ver true) (tg0.m ver true).w = true := by
  have : ver = 0 ∨ ver = 1 := by unfold mx at h1; omega
  rcases this with rfl | rfl <;> first | decide | exact absurd hf (by decide)
set_option maxRecDepth 100000 in
theorem knm (ver : Int) (l : List Tr) : tgKn YEndQuorumEpochResponse.fs ver l = kn1 0 (trAt l 2).l (fieldB tf0 ver true (trAt l 2)) := by
  unfold tgKn
  rw [lstm]
  simp [kT1, kT2, kn1, YEndQuorumEpochResponse.fs, YEndQuorumEpochResponse.fs12, Fld.tag, tf0]
theorem knl (ver : Int) (t : Tr) : (encTags (tgKn YEndQuorumEpochResponse.fs ver t.l)).length ≤ (20 + (fieldB tf0 ver true (trAt t.l 2)).length) := by
  rw [knm]
  exact kn1_len _ _ _
set_option maxRecDepth 100000 in
theorem len0 (ver : Int) (t : Tr) (hz : t.size ≤ 1048576) : (fieldB tf0 ver true (trAt t.l 2)).length < 4294967296 := by
  have h := Nat.le_trans (tagf_cst tf0 ver t 2) (Nat.mul_le_mul_left (Fld.cst tf0) hz)
  have h2 : Fld.cst tf0 * 1048576 < 4294967296 := by decide
  omega
set_option maxRecDepth 100000 in
theorem bndm (ver : Int) (t : Tr) (hz : t.size ≤ 1048576) : (partGB YEndQuorumEpochResponse.fs ver (fxOf YEndQuorumEpochResponse.fx ver) t).length + 118 ≤ lim := by
  have hP := toG_split (fs := YEndQuorumEpochResponse.fs) (ps := ps) (ts := tfs) rfl (by decide) (by decide) ver (fxOf YEndQuorumEpochResponse.fx ver) t.l
  have h1 : (toG YEndQuorumEpochResponse.fs ver (fxOf YEndQuorumEpochResponse.fx ver) t.l YEndQuorumEpochResponse.fs.length).length ≤ fldsCst ps * 1048576 := by
    rw [hP]
    exact Nat.le_trans (plain_cst ps ver _ t) (Nat.mul_le_mul_left _ hz)
  have k0 := Nat.le_trans (tagf_cst tf0 ver t 2) (Nat.mul_le_mul_left (Fld.cst tf0) hz)
  have h3 := Nat.le_trans (un_cst YEndQuorumEpochResponse.fs t) (Nat.mul_le_mul_left 21 hz)
  have h2 : (encTags (tgKn YEndQuorumEpochResponse.fs ver t.l)).length ≤ (20 + Fld.cst tf0 * 1048576) := by
    exact Nat.le_trans (knl ver t) (Nat.add_le_add_left k0 20)
  have h4 := partG_len (flex := fxOf YEndQuorumEpochResponse.fx ver) h1 h2 h3
  exact Nat.le_trans (Nat.add_le_add_right h4 118) (show fldsCst ps * 1048576 + ((20 + Fld.cst tf0 * 1048576)) + 21 * 1048576 + 10 + 118 ≤ lim by decide)
theorem one {f : Fld} {g : TG} (hk : f.kind = 11) (hn : f.nu < 0) {ver : Int} {t : Tr} (ht : TrOk t) (hs : W.sub (fieldW f ver true) (g.m ver true).w = true) (hl : (fieldB f ver true t).length < 4294967296) :
    ∃ o : Option (List Val), (o.map fun vs => (g.key, encL ver true g vs)).toList = kn1 g.key t.l (fieldB f ver true t) ∧ ∀ vs, o = some vs → 0 < vs.length ∧ Kf.wf (g.m ver true).w (.list (some vs)) ∧ (encL ver true g vs).length < 4294967296 := by
  by_cases he : t.l = []
  · exact ⟨none, by simp [kn1, he], fun vs h => by cases h⟩
  · obtain ⟨vs, h1, h2, h3⟩ := tagV hk hn ht he hs
    exact ⟨some vs, by simp [kn1, he, encL, h3], fun v h => by cases h; exact ⟨h1, h2, by rw [encL, h3]; exact hl⟩⟩
theorem fullm (ver : Int) (h0 : 0 ≤ ver) (h1 : ver ≤ mx) (t : Tr) (ht : TrOk t) (hz : t.size ≤ 1048576) : FullT ver (partGB YEndQuorumEpochResponse.fs ver (fxOf YEndQuorumEpochResponse.fx ver) t) := by
  have hb := bndm ver t hz
  rw [fxe ver h0 h1] at hb ⊢
  have hP := toG_split (fs := YEndQuorumEpochResponse.fs) (ps := ps) (ts := tfs) rfl (by decide) (by decide) ver (decide (ver ≥ (1))) t.l
  obtain ⟨x, hx1, hx2⟩ := plainV ht (subm ver h0 h1)
  have hok := okm ver h0 h1
  have hU := tgUn_up YEndQuorumEpochResponse.fs ht
  rw [lstm] at hU
  have hUl := tgUn_len YEndQuorumEpochResponse.fs t.u
  unfold partGB at hb ⊢
  rw [hP] at hb ⊢
  refine ⟨?_⟩
  cases hf : decide (ver ≥ (1))
  · rw [hf] at hb hx1 hx2 hok
    refine ⟨x, gs.map fun y => (y, none), [], by simp [gs], ⟨(fun g ta vs h => by simp [gs] at h), (fun h => by cases h), by simp [knV, gs, upTags], by simp, (fun g hg y hy => by cases hy), (fun _ => by simp [knV, gs])⟩, hok, hx1, ?_, ?_⟩
    · rw [hx2]; simp [tgB]
    · rw [hx2]
      simp only [Bool.false_eq_true, if_false, List.append_nil] at hb
      unfold lim at hb
      unfold lim2
      simp [knV, gs, encTags]
      omega
  · have hog := okg ver h0 h1 hf
    rw [hf] at hb hx1 hx2 hok
    obtain ⟨o0, p0, q0⟩ := one (f := tf0) (g := tg0) rfl (by decide) (ht.at_ 2) (subg0 ver h0 h1 hf) (len0 ver t hz)
    have hkn : knV ver true [((tg0, ta0), o0)] = tgKn YEndQuorumEpochResponse.fs ver t.l := by
      rw [knm]
      have e : knV ver true [((tg0, ta0), o0)] = (o0.map fun vs => (tg0.key, encL ver true tg0 vs)).toList := by cases o0 <;> rfl
      rw [e, p0]
      rfl
    refine ⟨x, [((tg0, ta0), o0)], tgUn YEndQuorumEpochResponse.fs t.u, rfl, ⟨fun g ta vs h => ?_, fun _ => hog, ?_, by omega, fun g hg y hy => ?_, (fun h => by cases h)⟩, hok, hx1, ?_, ?_⟩
    · simp only [List.mem_cons, Prod.mk.injEq, List.not_mem_nil, or_false] at h
      rcases h with ⟨⟨rfl, rfl⟩, h⟩
      · exact q0 vs h.symm
    · clear hb hkn p0
      cases o0 with
      | none =>
        exact upTags_mono (Nat.zero_le _) hU
      | some v0 =>
        exact ⟨Nat.zero_le _, (show tg0.key < 4294967296 by decide), (q0 _ rfl).2.2, hU⟩
    · have := upTags_ge _ _ hU y hy
      simp only [gs, List.map_cons, List.map_nil, List.mem_cons, List.not_mem_nil, or_false] at hg
      rcases hg with rfl
      all_goals (first | (show (0 : Nat) < y.1; omega) | (show (1 : Nat) < y.1; omega))
    · rw [hx2, hkn]
      rfl
    · rw [hx2, hkn]
      rw [if_pos rfl] at hb
      generalize tgKn YEndQuorumEpochResponse.fs ver t.l ++ tgUn YEndQuorumEpochResponse.fs t.u = KU at *
      rw [List.length_append, List.length_append] at hb
      unfold lim at hb
      unfold lim2
      omega

set_option maxRecDepth 100000 in
set_option maxHeartbeats 1000000 in
theorem law {w : World} {B : Nat} {n : Int} {t : Tr} {ts : List Value} (hB : B ≤ w.heap.size) (hT : TrC w B t ts) (hI : EI w) (hn0 : 0 ≤ n) (hn1 : n < 256) (hz : t.size ≤ 1048576) :
    Calls Tryz.prog 4 #[.int .u8 n, .agg ts.toArray] w fun e w' => e = .returned (.bool true) ∧ Only (fun _ => False) w w' := by
  have hv0 : 0 ≤ n % (mx + 1) := Int.emod_nonneg _ (by decide)
  have hv1 : n % (mx + 1) ≤ mx := by have := Int.emod_lt_of_pos n (show (0 : Int) < mx + 1 by decide); omega
  have hwr : IntKind.i16.wrap (n % (mx + 1)) = n % (mx + 1) := by unfold IntKind.wrap; unfold mx at *; simp [IntKind.signed, IntKind.bits] <;> omega
  have cV := Lib.hid (fun (w1 : World) => version_c w1 n mx hn0 hn1 (by decide) (by decide))
  generalize n % (mx + 1) = ver at *
  have hb := bndm ver t hz
  have hfull : FullT ver (partGB YEndQuorumEpochResponse.fs ver (fxOf YEndQuorumEpochResponse.fx ver) t) := fullm ver hv0 hv1 t hT.ok hz
  have hpc := partm (fxOf YEndQuorumEpochResponse.fx ver)
  have cW := Lib.hid (fun (w1 : World) (A1 : Option Addr) (n1 c1 : Nat) (hF : FldsC w1 w1.heap.size YEndQuorumEpochResponse.fs (.slice A1 n1 c1)) (O : Only (fun _ => False) w w1) => (sp_writeG w1 w1.heap.size YEndQuorumEpochResponse.fs (.slice A1 n1 c1) YEndQuorumEpochResponse.fx ver t ts (Nat.le_refl _) hF ((hT.keep (O.kept0 hB)).more (Nat.le_trans hB O.size)) hpc (by unfold lim at hb; unfold lim2; omega)).mono (R' := OcP (partGB YEndQuorumEpochResponse.fs ver (fxOf YEndQuorumEpochResponse.fx ver) t) w1) fun e w' h => ocP_of h)
  generalize partGB YEndQuorumEpochResponse.fs ver (fxOf YEndQuorumEpochResponse.fx ver) t = bs at hfull hb cW
  have cF := Lib.hid (fun (w1 : World) (O : Only (fun _ => False) w w1) => fits2 w1 B t ts (Nat.le_trans hB O.size) (hT.keep (O.kept0 hB)))
  have cA := Lib.hid (fun (w1 : World) (v : Value) (h : Oc w1 w1.heap.size v bs) (O : Only (fun _ => False) w w1) => full (Nat.le_refl _) h hwr hv0 hfull (by omega) (ei_up hI O))
  have cS := Lib.hid (fun (w1 : World) (v u : Value) (h : Oc w1 w1.heap.size v bs) (k : Oc w1 w1.heap.size u bs) => sp_same w1 w1.heap.size v u _ (Nat.le_refl _) h k (by unfold lim at hb; unfold lim2; omega))
  obtain ⟨n0, A1, m1, c1, nl, A2, m2, c2, A3, m3, c3, rfl⟩ := hT.form
  have HSq : Hid (∀ w', Only (fun _ => False) (w.alloc (.cells #[.int .i64 n0, .slice A1 m1 c1, .bool nl, .slice A2 m2 c2, .slice A3 m3 c3] 26)) w' → w'.cell? ⟨w.heap.size, 0, none⟩ = some (.int .i64 n0) ∧ w'.cell? ⟨w.heap.size, 1, none⟩ = some (.slice A1 m1 c1) ∧ w'.cell? ⟨w.heap.size, 2, none⟩ = some (.bool nl) ∧ w'.cell? ⟨w.heap.size, 3, none⟩ = some (.slice A2 m2 c2) ∧ w'.cell? ⟨w.heap.size, 4, none⟩ = some (.slice A3 m3 c3)) :=
    Lib.hid fun w' h => ⟨boxN h 0 rfl, boxN h 1 rfl, boxN h 2 rfl, boxN h 3 rfl, boxN h 4 rfl⟩
  have HO0 : Hid (Only (fun _ => False) w (w.alloc (.cells #[.int .i64 n0, .slice A1 m1 c1, .bool nl, .slice A2 m2 c2, .slice A3 m3 c3] 26))) := Lib.hid ((Only.refl _ _).alloc _)
  clear hB hT hI hn0 hn1 hv0 hv1 hwr hb hfull hpc hz
  go_enter Tryz.func4, Tryz.ntmps4
  go_wp2_with (first
    | (go_at_call 5; refine (cF.out _ HO0.out).mono ?_; rintro e1 w1 ⟨bb, rfl, hO1⟩; have HO1 := Lib.hid hO1; clear hO1 cF; cases bb)
    | (go_at_call 11; refine (max_calls _).mono ?_; rintro e2 w2 ⟨rfl, hO2⟩; have HO2 := Lib.hid (HO1.out.trans hO2); clear hO2)
    | fail)
  · go_ret
    exact ⟨rfl, HO0.out.trans HO1.out⟩
  have HD2 := Lib.hid (HO2.out.drew)
  go_region_held3 (fun w' => w'.cell? ⟨w.heap.size, 0, none⟩ = some (.int .i64 n0) ∧ w'.cell? ⟨w.heap.size, 1, none⟩ = some (.slice A1 m1 c1) ∧ w'.cell? ⟨w.heap.size, 2, none⟩ = some (.bool nl) ∧ w'.cell? ⟨w.heap.size, 3, none⟩ = some (.slice A2 m2 c2) ∧ w'.cell? ⟨w.heap.size, 4, none⟩ = some (.slice A3 m3 c3))
    (first | exact HSq.out _ HD2.out | exact HSq.out _ HO3.out | exact HSq.out _ HO5.out)
    (first
      | (go_at_call 12; refine (YEndQuorumEpochResponse.spec _).mono ?_; rintro e3 w3 ⟨A4, n4, c4, rfl, hF3, hO3⟩; have HF3 := Lib.hid hF3; have HO3 := Lib.hid (HD2.out.trans hO3); clear hF3 hO3)
      | (go_at_call 9; refine (cV.out _).mono ?_; rintro e4 w4 ⟨rfl, hw4⟩; subst w4)
      | (go_at_call 7; refine (cW.out w3 A4 n4 c4 HF3.out (HO0.out.trans HO3.out)).mono ?_; rintro e5 w5 ⟨ab, mb, cb, rfl, ho5, hO5⟩; have HC5 := Lib.hid ho5; have HO5 := Lib.hid (HO3.out.trans hO5); clear ho5 hO5 cW))
  go_wp2_with (first
    | (go_at_call 9; refine (cV.out _).mono ?_; rintro e4 w4 ⟨rfl, hw4⟩; subst w4)
    | (go_at_call 13; refine (cA.out w5 _ HC5.out (HO0.out.trans HO5.out)).mono ?_; rintro e6 w6 ⟨A6, n6, c6, rfl, hO6, ho6⟩; have HO6 := Lib.hid (HO5.out.trans hO6); have HR6 := Lib.hid ho6.oc; have HC6 := Lib.hid ((HC5.out.keep (hO6.kept0 (Nat.le_refl _))).more hO6.size); clear hO6 ho6 cA)
    | (go_at_call 14; refine (cS.out w6 _ _ HR6.out HC6.out).mono ?_; rintro e7 w7 ⟨rfl, hO7⟩; have HO7 := Lib.hid (HO6.out.trans hO7); clear hO7 cS)
    | fail)
  go_ret
  exact ⟨rfl, HO0.out.trans HO7.out⟩

theorem upto_bulk {H : Type} : Bulk (H := H) Rows.uptoBulk Rows.uptoBulkAll where
  int := fun _ _ => by simp [Rows.uptoBulk]
  bool := fun _ => by simp [Rows.uptoBulk]
  nil := by simp [Rows.uptoBulk]
  agg := fun _ => by simp [Rows.uptoBulk]
  slice := fun _ _ => by simp [Rows.uptoBulk]
  none := by simp [Rows.uptoBulkAll]
  cons := fun _ _ => by simp [Rows.uptoBulkAll]
theorem upto_le {H : Type} {l : List (DataW H)} {d : DataW H} (hk : Rows.uptoSmall H l = true) (hd : d ∈ l) : Rows.uptoBulk d ≤ 1048576 := Nat.le_trans (upto_bulk.mem hd) (of_decide_eq_true hk)

/-! ### the row and the card -/
open Go.ChangeShapes Go.WideShapes Go.ChangeAt
set_option maxRecDepth 100000 in
theorem contract (H : Type) (enc : TypeId × Value → H) (W : World) (base : Nat) (args : Array Value) (ds gs : List (DataW H)) (before : List MemPlace)
    (hval : ∀ (j : Nat) t v, Tryz.f4.params[j]? = some t → args[j]? = some v → Value.okWide Tryz.prog W .any base t v)
    (hW : DataW.Whole enc Tryz.prog Tryz.f4.params.toList Rows.fnAgainEndQuorumEpochResponseSpec.vars false W args.toList ds gs before) (hk : Rows.uptoSmall H (ds ++ gs) = true) (hL : laidMetH Tryz.prog Rows.fnAgainEndQuorumEpochResponseUptoRow.laid W) :
    Calls Tryz.prog 4 args W fun e W' => ∃ v, e = .returned v ∧ Rows.fnAgainEndQuorumEpochResponseSpec.post enc Tryz.prog Tryz.f4 false true false false W args v W' := by
  have hW' := hW
  obtain ⟨p, q, hA0, hV, rfl, hfz, hnd⟩ := hW
  have hA : DataW.TrodAll enc Tryz.prog W 0 (fun _ => true) true Tryz.f4.params.toList args.toList ds p := hA0
  rw [Tryz.params4] at hA hval
  obtain ⟨v0, vs0, d0, ds0, p0, q0, hargs, rfl, rfl, h0, r0⟩ := trodAll_cons hA
  obtain ⟨v1, vs1, d1, ds1, p1, q1, rfl, rfl, rfl, h1, r1⟩ := trodAll_cons r0
  obtain ⟨rfl, rfl, rfl⟩ := trodAll_nil r1
  obtain rfl : args = #[v0, v1] := by cases args; simp_all
  obtain ⟨n, rfl, _, _, wn⟩ := open_int Tryz.underlying5 (hval 0 5 v0 rfl rfl) h0
  have hn : 0 ≤ n ∧ n ≤ 255 := by simpa [Lit.wf, IntKind.min, IntKind.max, IntKind.signed, IntKind.bits] using wn
  obtain ⟨t, ts, rfl, hT, hz⟩ := tr_openZ upto_bulk treeT (hval 1 26 v1 rfl rfl) h1
  refine (law (Nat.le_refl _) hT (ei_laid hL) hn.1 (by omega) (Nat.le_trans hz (upto_le hk (by simp)))).mono fun e W' ⟨he, hO⟩ => ?_
  subst he
  exact ⟨_, rfl, law_post laidOut hW' rfl (by
    rw [Tryz.params4]
    intro t ht
    have e : t = 5 ∨ t = 26 := (by simpa using ht)
    rcases e with rfl | rfl <;> exact ⟨by kernel_rfl, of_decide_eq_true (by kernel_rfl)⟩) rfl rfl rfl (by kernel_rfl) Tryz.underlying4 hO⟩
theorem laid_met (os : Os) : laidMet Tryz.prog Rows.fnAgainEndQuorumEpochResponseUptoRow.laid ((laidWorld os).forCall (fun _ _ => 0) ⟨#[], #[.int .u8 0, .agg #[.int .i64 0, .slice none 0 0, .bool false, .slice none 0 0, .slice none 0 0]], []⟩).memory :=
  laidMet_of_run' 8 (by kernel_rfl) (by kernel_rfl)
theorem reads (os : Os) {H : Type} (enc : TypeId × Value → H) : ∃ places, DataW.whole enc Tryz.prog ((laidWorld os).forCall (fun _ _ => 0) ⟨#[], #[.int .u8 0, .agg #[.int .i64 0, .slice none 0 0, .bool false, .slice none 0 0, .slice none 0 0]], []⟩).memory Tryz.f4.params.toList Rows.fnAgainEndQuorumEpochResponseSpec.vars false (#[.int .u8 0, .agg #[.int .i64 0, .slice none 0 0, .bool false, .slice none 0 0, .slice none 0 0]] : Array Value).toList 8 = some ([.lit (.int .u8 0), .agg [.lit (.int .i64 0), .nil, .lit (.bool false), .nil, .nil]], [], places) :=
  ⟨[], by kernel_rfl⟩

set_option maxRecDepth 100000 in
theorem lifted (os : Os) (started : os.Started) (H : Type) (enc : TypeId × Value → H) (F : Stop.Interp) :
    ReturnsInHanded {} Tryz.checked os 4 .any ((Rows.OpenSpec.upto Rows.fnAgainEndQuorumEpochResponseSpec).preRow enc Tryz.prog Tryz.f4 Rows.fnAgainEndQuorumEpochResponseUptoRow.domain false Rows.fnAgainEndQuorumEpochResponseUptoRow.laid) (((Rows.OpenSpec.upto Rows.fnAgainEndQuorumEpochResponseSpec).at F).post enc Tryz.prog Tryz.f4 false true false false) := by
  obtain ⟨places, hx⟩ := reads os enc
  refine returnsInHanded_of_row (C := Tryz.checked) (s := Rows.OpenSpec.upto Rows.fnAgainEndQuorumEpochResponseSpec) own started (by kernel_rfl) Tryz.func4
    (witness_row_at (enc := enc) (C := Tryz.checked) false (laidWorld os) #[.int .u8 0, .agg #[.int .i64 0, .slice none 0 0, .bool false, .slice none 0 0, .slice none 0 0]] rfl (by kernel_rfl) (by kernel_rfl) (by kernel_rfl)
      (OpenSpec.preRow_of_cond 8 hx (by kernel_rfl) (fun k hk => by cases hk; kernel_rfl) (by kernel_rfl) (laid_met os))) ?_
  intro W base args ds gs before hval hW _ hcond _ hL _ _
  exact contract H enc W base args ds gs before hval hW (hcond _ rfl) hL

set_option maxRecDepth 100000 in
theorem closed : joinedFacts Tryz.pinned.checked.prog 4 Tryz.f4 (Rows.OpenSpec.upto Rows.fnAgainEndQuorumEpochResponseSpec).bare Rows.fnAgainEndQuorumEpochResponseUptoRow = true := by kernel_rfl
set_option maxRecDepth 100000 in
theorem named : Tryz.pinned.checked.prog.funcNamed Rows.fnAgainEndQuorumEpochResponseUptoRow.func = some 4 := by kernel_rfl
set_option maxRecDepth 100000 in
theorem said : Rows.FnAgainEndQuorumEpochResponseUptoSaid :=
  OpenClaim.holds_of_cond 4 Tryz.f4 rfl rfl rfl rfl rfl rfl rfl ⟨rfl, rfl, rfl, rfl, rfl⟩ rfl rfl rfl rfl rfl named Tryz.func4 closed
    (of_decide_eq_true (by kernel_rfl)) (by unfold Func.isWrapper; first | (rw [if_pos (by decide +kernel)]; kernel_rfl) | (rw [if_neg (by decide +kernel)]; exact ⟨rfl, rfl⟩))
    (fun os started H enc _ F => by rw [OpenClaim.pre_eq_preRow]; exact lifted os started H enc F)

theorem plain (f : FuncId) (fn : Func) (hf : Tryz.pinned.checked.prog.funcNamed "pub-kmsg/laws.FnAgainEndQuorumEpochResponse" = some f) (hfn : Tryz.pinned.checked.prog.funcs[f]? = some fn) :
    false = Tryz.pinned.checked.prog.looks [] ∧ ∀ (j : Nat) t, fn.params[j]? = some t → Tryz.pinned.checked.prog.wantsStandIn t = false := by
  obtain rfl : f = 4 := Option.some.inj ((show Tryz.prog.funcNamed "pub-kmsg/laws.FnAgainEndQuorumEpochResponse" = some 4 by kernel_rfl).symm.trans hf) |>.symm
  obtain rfl : fn = Tryz.f4 := (Option.some.inj (Tryz.func4.symm.trans hfn)).symm
  refine ⟨by kernel_rfl, fun j t ht => ?_⟩
  rw [Tryz.params4] at ht
  have ht' := Array.mem_of_getElem? ht
  have e : t = 5 ∨ t = 26 := (by simpa using ht')
  rcases e with rfl | rfl
  all_goals exact (show Tryz.prog.wantsStandIn _ = false by kernel_rfl)

/-- The card. -/
theorem card : Rows.FnAgainEndQuorumEpochResponseUptoCardSaid :=
  Claim7.holds_tied_plain_at .later [] _ _ _ _ said (fun _ h => by cases h) (by kernel_rfl) (fun _ h => by cases h) fnAgainEndQuorumEpochResponseUpto_row_tie rfl ⟨rfl, rfl⟩ (by kernel_rfl) rfl plain (by kernel_rfl)
end Go.Proofs.YtpefipjgcpchaaaGreatDoorR.Kf.LFnAgainEndQuorumEpochResponse
