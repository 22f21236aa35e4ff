/- A BrokerHeartbeatRequest that was written by the reference and is cut anywhere ahead of its end is refused, and one that is whole is read: the law FnCutBrokerHeartbeatRequest returns true at every input and lets its arguments be. Condition: the errors' variable reads as its initialiser lays it (tied to the program's text). -/
import Derived.Test.YtpefipjgcpchaaaGreatDoorRMBrokerHeartbeatRequest
import Derived.Test.YtpefipjgcpchaaaGreatDoorRYBrokerHeartbeatRequest
import Derived.Test.YtpefipjgcpchaaaGreatDoorRSpM
import Derived.Test.YtpefipjgcpchaaaGreatDoorRLawB
import Derived.Test.YtpefipjgcpchaaaGreatDoorRPG
import Derived.Test.YtpefipjgcpchaaaGreatDoorRRowC
namespace Go.Proofs.YtpefipjgcpchaaaGreatDoorR.Kf.LFnCutBrokerHeartbeatRequest
set_option linter.unusedVariables false
set_option linter.unusedSimpArgs false
open Go Go.RowKit MBrokerHeartbeatRequest

def mx : Int := 2
def ps : List Fld := [.mk 3 0 (-1) (-1) (-1) 0 0 [], .mk 4 0 (-1) (-1) (-1) (-1) 0 [], .mk 4 0 (-1) (-1) (-1) 0 0 [], .mk 0 0 (-1) (-1) (-1) 0 0 [], .mk 0 0 (-1) (-1) (-1) 0 0 []]
def tf0 : Fld := .mk 11 0 (-1) (-1) 0 0 7 []
def tf1 : Fld := .mk 11 0 (-1) (-1) 1 0 7 []
def tfs : List Fld := [tf0, tf1]
theorem okm (ver : Int) (h0 : 0 ≤ ver) (h1 : ver ≤ mx) : (r.m ver (decide (ver ≥ (0)))).w.ok = true := by
  have : ver = 0 ∨ ver = 1 ∨ ver = 2 := by unfold mx at h1; omega
  rcases this with rfl | rfl | rfl <;> rfl
theorem okg (ver : Int) (h0 : 0 ≤ ver) (h1 : ver ≤ mx) (hf : decide (ver ≥ (0)) = true) : ∀ g ∈ gs.map (·.1), (g.m ver true).w.ok = true := by
  intro g hg
  simp only [gs, List.map_cons, List.map_nil, List.mem_cons, List.not_mem_nil, or_false] at hg
  have : ver = 0 ∨ ver = 1 ∨ ver = 2 := by unfold mx at h1; omega
  rcases hg with rfl | rfl <;> rcases this with rfl | rfl | rfl <;> first | rfl | exact absurd hf (by decide)
theorem subm (ver : Int) (h0 : 0 ≤ ver) (h1 : ver ≤ mx) : W.sub (fieldsWN ps ver (decide (ver ≥ (0)))) (r.m ver (decide (ver ≥ (0)))).w = true := by
  have : ver = 0 ∨ ver = 1 ∨ ver = 2 := by unfold mx at h1; omega
  rcases this with rfl | rfl | rfl <;> decide
theorem posm (ver : Int) (h0 : 0 ≤ ver) (h1 : ver ≤ mx) : (r.m ver (decide (ver ≥ (0)))).w.pos = true := by
  have : ver = 0 ∨ ver = 1 ∨ ver = 2 := by unfold mx at h1; omega
  rcases this with rfl | rfl | rfl <;> rfl
theorem fxe (ver : Int) (h0 : 0 ≤ ver) (h1 : ver ≤ mx) : fxOf YBrokerHeartbeatRequest.fx ver = decide (ver ≥ (0)) := by
  have : ver = 0 ∨ ver = 1 ∨ ver = 2 := by unfold mx at h1; omega
  rcases this with rfl | rfl | rfl <;> rfl
set_option maxRecDepth 100000 in
theorem partm (flex : Bool) : GsP flex YBrokerHeartbeatRequest.fs := gsP_of (by decide) (by decide) (by decide) (by decide)
set_option maxRecDepth 100000 in
theorem lstm : lstG YBrokerHeartbeatRequest.fs YBrokerHeartbeatRequest.fs.length = 2 := by decide
theorem subg0 (ver : Int) (h0 : 0 ≤ ver) (h1 : ver ≤ mx) (hf : decide (ver ≥ (0)) = true) : W.sub (fieldW tf0 ver true) (tg0.m ver true).w = true := by
  have : ver = 0 ∨ ver = 1 ∨ ver = 2 := by unfold mx at h1; omega
  rcases this with rfl | rfl | rfl <;> first | decide | exact absurd hf (by decide)
theorem subg1 (ver : Int) (h0 : 0 ≤ ver) (h1 : ver ≤ mx) (hf : decide (ver ≥ (0)) = true) : W.sub (fieldW tf1 ver true) (tg1.m ver true).w = true := by
  have : ver = 0 ∨ ver = 1 ∨ ver = 2 := by unfold mx at h1; omega
  rcases this with rfl | rfl | rfl <;> first | decide | exact absurd hf (by decide)
set_option maxRecDepth 100000 in
theorem knm (ver : Int) (l : List Tr) : tgKn YBrokerHeartbeatRequest.fs ver l = kn1 0 (trAt l 5).l (fieldB tf0 ver true (trAt l 5)) ++ kn1 1 (trAt l 6).l (fieldB tf1 ver true (trAt l 6)) := by
  unfold tgKn
  rw [lstm]
  simp [kT1, kT2, kn1, YBrokerHeartbeatRequest.fs, YBrokerHeartbeatRequest.fs8, Fld.tag, tf0, tf1]
theorem knl (ver : Int) (t : Tr) : (encTags (tgKn YBrokerHeartbeatRequest.fs ver t.l)).length ≤ (20 + (fieldB tf0 ver true (trAt t.l 5)).length) + (20 + (fieldB tf1 ver true (trAt t.l 6)).length) := by
  rw [knm]
  rw [encTags_app, List.length_append]
  exact Nat.add_le_add (kn1_len _ _ _) (kn1_len _ _ _)
set_option maxRecDepth 100000 in
theorem len0 (ver : Int) (t : Tr) : (fieldB tf0 ver true (trAt t.l 5)).length < 4294967296 := by
  have h := field_bnd tf0 ver true (trAt t.l 5)
  have h2 : Fld.bnd true tf0 < 4294967296 := by decide
  omega
set_option maxRecDepth 100000 in
theorem len1 (ver : Int) (t : Tr) : (fieldB tf1 ver true (trAt t.l 6)).length < 4294967296 := by
  have h := field_bnd tf1 ver true (trAt t.l 6)
  have h2 : Fld.bnd true tf1 < 4294967296 := by decide
  omega
set_option maxRecDepth 100000 in
theorem bndm (ver : Int) (t : Tr) : (partGB YBrokerHeartbeatRequest.fs ver (fxOf YBrokerHeartbeatRequest.fx ver) t).length + 118 ≤ lim := by
  generalize fxOf YBrokerHeartbeatRequest.fx ver = fl
  have hP := toG_split (fs := YBrokerHeartbeatRequest.fs) (ps := ps) (ts := tfs) rfl (by decide) (by decide) ver fl t.l
  have h1 : (toG YBrokerHeartbeatRequest.fs ver fl t.l YBrokerHeartbeatRequest.fs.length).length ≤ fldsBnd fl ps := by
    rw [hP]
    exact plain_bnd ps ver fl t
  have k0 := field_bnd tf0 ver true (trAt t.l 5)
  have k1 := field_bnd tf1 ver true (trAt t.l 6)
  have h3 := un_bnd YBrokerHeartbeatRequest.fs t.u
  have h2 : (encTags (tgKn YBrokerHeartbeatRequest.fs ver t.l)).length ≤ (20 + Fld.bnd true tf0) + (20 + Fld.bnd true tf1) := by
    exact Nat.le_trans (knl ver t) (Nat.add_le_add (Nat.add_le_add_left k0 20) (Nat.add_le_add_left k1 20))
  have h4 := partG_len (flex := fl) h1 h2 h3
  have h5 : ∀ fl, fldsBnd fl ps + ((20 + Fld.bnd true tf0) + (20 + Fld.bnd true tf1)) + tagsMax + 10 + 118 ≤ lim := by decide
  exact Nat.le_trans (Nat.add_le_add_right h4 118) (h5 fl)
theorem one {f : Fld} {g : TG} (hk : f.kind = 11) (hn : f.nu < 0) {ver : Int} {t : Tr} (ht : TrOk t) (hs : W.sub (fieldW f ver true) (g.m ver true).w = true) (hl : (fieldB f ver true t).length < 4294967296) :
    ∃ o : Option (List Val), (o.map fun vs => (g.key, encL ver true g vs)).toList = kn1 g.key t.l (fieldB f ver true t) ∧ ∀ vs, o = some vs → 0 < vs.length ∧ Kf.wf (g.m ver true).w (.list (some vs)) ∧ (encL ver true g vs).length < 4294967296 := by
  by_cases he : t.l = []
  · exact ⟨none, by simp [kn1, he], fun vs h => by cases h⟩
  · obtain ⟨vs, h1, h2, h3⟩ := tagV hk hn ht he hs
    exact ⟨some vs, by simp [kn1, he, encL, h3], fun v h => by cases h; exact ⟨h1, h2, by rw [encL, h3]; exact hl⟩⟩
theorem fullm (ver : Int) (h0 : 0 ≤ ver) (h1 : ver ≤ mx) (t : Tr) (ht : TrOk t) : FullT ver (partGB YBrokerHeartbeatRequest.fs ver (fxOf YBrokerHeartbeatRequest.fx ver) t) := by
  have hb := bndm ver t
  rw [fxe ver h0 h1] at hb ⊢
  have hP := toG_split (fs := YBrokerHeartbeatRequest.fs) (ps := ps) (ts := tfs) rfl (by decide) (by decide) ver (decide (ver ≥ (0))) t.l
  obtain ⟨x, hx1, hx2⟩ := plainV ht (subm ver h0 h1)
  have hok := okm ver h0 h1
  have hU := tgUn_up YBrokerHeartbeatRequest.fs ht
  rw [lstm] at hU
  have hUl := tgUn_len YBrokerHeartbeatRequest.fs t.u
  unfold partGB at hb ⊢
  rw [hP] at hb ⊢
  refine ⟨?_⟩
  cases hf : decide (ver ≥ (0))
  · rw [hf] at hb hx1 hx2 hok
    refine ⟨x, gs.map fun y => (y, none), [], by simp [gs], ⟨(fun g ta vs h => by simp [gs] at h), (fun h => by cases h), by simp [knV, gs, upTags], by simp, (fun g hg y hy => by cases hy), (fun _ => by simp [knV, gs])⟩, hok, hx1, ?_, ?_⟩
    · rw [hx2]; simp [tgB]
    · rw [hx2]
      simp only [Bool.false_eq_true, if_false, List.append_nil] at hb
      unfold lim at hb
      unfold lim2
      simp [knV, gs, encTags]
      omega
  · have hog := okg ver h0 h1 hf
    rw [hf] at hb hx1 hx2 hok
    obtain ⟨o0, p0, q0⟩ := one (f := tf0) (g := tg0) rfl (by decide) (ht.at_ 5) (subg0 ver h0 h1 hf) (len0 ver t)
    obtain ⟨o1, p1, q1⟩ := one (f := tf1) (g := tg1) rfl (by decide) (ht.at_ 6) (subg1 ver h0 h1 hf) (len1 ver t)
    have hkn : knV ver true [((tg0, ta0), o0), ((tg1, ta1), o1)] = tgKn YBrokerHeartbeatRequest.fs ver t.l := by
      rw [knm]
      have e : knV ver true [((tg0, ta0), o0), ((tg1, ta1), o1)] = (o0.map fun vs => (tg0.key, encL ver true tg0 vs)).toList ++ (o1.map fun vs => (tg1.key, encL ver true tg1 vs)).toList := by cases o0 <;> cases o1 <;> rfl
      rw [e, p0, p1]
      rfl
    refine ⟨x, [((tg0, ta0), o0), ((tg1, ta1), o1)], tgUn YBrokerHeartbeatRequest.fs t.u, rfl, ⟨fun g ta vs h => ?_, fun _ => hog, ?_, by omega, fun g hg y hy => ?_, (fun h => by cases h)⟩, hok, hx1, ?_, ?_⟩
    · simp only [List.mem_cons, Prod.mk.injEq, List.not_mem_nil, or_false] at h
      rcases h with ⟨⟨rfl, rfl⟩, h⟩ | ⟨⟨rfl, rfl⟩, h⟩
      · exact q0 vs h.symm
      · exact q1 vs h.symm
    · clear hb hkn p0 p1
      cases o0 with
      | none =>
        cases o1 with
        | none =>
          exact upTags_mono (Nat.zero_le _) hU
        | some v1 =>
          exact ⟨Nat.zero_le _, (show tg1.key < 4294967296 by decide), (q1 _ rfl).2.2, hU⟩
      | some v0 =>
        cases o1 with
        | none =>
          exact ⟨Nat.zero_le _, (show tg0.key < 4294967296 by decide), (q0 _ rfl).2.2, upTags_mono (show tg0.key + 1 ≤ 2 by decide) hU⟩
        | some v1 =>
          exact ⟨Nat.zero_le _, (show tg0.key < 4294967296 by decide), (q0 _ rfl).2.2, ⟨(show tg0.key + 1 ≤ tg1.key by decide), (show tg1.key < 4294967296 by decide), (q1 _ rfl).2.2, hU⟩⟩
    · have := upTags_ge _ _ hU y hy
      simp only [gs, List.map_cons, List.map_nil, List.mem_cons, List.not_mem_nil, or_false] at hg
      rcases hg with rfl | rfl
      all_goals (first | (show (0 : Nat) < y.1; omega) | (show (1 : Nat) < y.1; omega))
    · rw [hx2, hkn]
      rfl
    · rw [hx2, hkn]
      rw [if_pos rfl] at hb
      generalize tgKn YBrokerHeartbeatRequest.fs ver t.l ++ tgUn YBrokerHeartbeatRequest.fs t.u = KU at *
      rw [List.length_append, List.length_append] at hb
      unfold lim at hb
      unfold lim2
      omega

set_option maxRecDepth 100000 in
set_option maxHeartbeats 1000000 in
theorem law {w : World} {B : Nat} {n at_ : Int} {t : Tr} {ts : List Value} (hB : B ≤ w.heap.size) (hT : TrC w B t ts) (hI : EI w) (hn0 : 0 ≤ n) (hn1 : n < 256) (ha0 : 0 ≤ at_) (ha1 : at_ < 65536) :
    Calls Tryz.prog 3 #[.int .u8 n, .agg ts.toArray, .int .u16 at_] w fun e w' => e = .returned (.bool true) ∧ Only (fun _ => False) w w' := by
  have hv0 : 0 ≤ n % (mx + 1) := Int.emod_nonneg _ (by decide)
  have hv1 : n % (mx + 1) ≤ mx := by have := Int.emod_lt_of_pos n (show (0 : Int) < mx + 1 by decide); omega
  have hwr : IntKind.i16.wrap (n % (mx + 1)) = n % (mx + 1) := by unfold IntKind.wrap; unfold mx at *; simp [IntKind.signed, IntKind.bits] <;> omega
  have cV := Lib.hid (fun (w1 : World) => version_c w1 n mx hn0 hn1 (by decide) (by decide))
  generalize n % (mx + 1) = ver at *
  have hb := bndm ver t
  have hfull : FullT ver (partGB YBrokerHeartbeatRequest.fs ver (fxOf YBrokerHeartbeatRequest.fx ver) t) := fullm ver hv0 hv1 t hT.ok
  have hpc := partm (fxOf YBrokerHeartbeatRequest.fx ver)
  obtain ⟨nb, hnb⟩ : ∃ nb, (partGB YBrokerHeartbeatRequest.fs ver (fxOf YBrokerHeartbeatRequest.fx ver) t).length = nb := ⟨_, rfl⟩
  have hne : nb ≠ 0 := by
    obtain ⟨x, gv, un, _, _, _, h2, h3, _⟩ := hfull.ex
    have := enc_pos _ x (posm ver hv0 hv1) h2
    have h4 := congrArg List.length h3
    rw [hnb, List.length_append] at h4
    omega
  rw [hnb] at hb
  have cW := Lib.hid (fun (w1 : World) (A1 : Option Addr) (n1 c1 : Nat) (hF : FldsC w1 w1.heap.size YBrokerHeartbeatRequest.fs (.slice A1 n1 c1)) (O : Only (fun _ => False) w w1) => (sp_writeG w1 w1.heap.size YBrokerHeartbeatRequest.fs (.slice A1 n1 c1) YBrokerHeartbeatRequest.fx ver t ts (Nat.le_refl _) hF ((hT.keep (O.kept0 hB)).more (Nat.le_trans hB O.size)) hpc (by rw [hnb]; unfold lim at hb; unfold lim2; omega)).mono (R' := OcN (partGB YBrokerHeartbeatRequest.fs ver (fxOf YBrokerHeartbeatRequest.fx ver) t) nb w1) fun e w' h => ocN_of h hnb hne)
  generalize partGB YBrokerHeartbeatRequest.fs ver (fxOf YBrokerHeartbeatRequest.fx ver) t = bs at hfull hnb cW
  have cF := Lib.hid (fun (w1 : World) (O : Only (fun _ => False) w w1) => fits2 w1 B t ts (Nat.le_trans hB O.size) (hT.keep (O.kept0 hB)))
  have cA := Lib.hid (fun (w1 : World) (v : Value) (h : Oc w1 w1.heap.size v bs) (O : Only (fun _ => False) w w1) => full (Nat.le_refl _) h hwr hv0 hfull (by omega) (ei_up hI O))
  have hq0 := Int.emod_nonneg at_ (show (nb : Int) ≠ 0 by omega)
  have hq1 := Int.emod_lt_of_pos at_ (show (0 : Int) < nb by omega)
  obtain ⟨k, hk⟩ : ∃ k : Nat, at_ % (nb : Int) = k := ⟨(at_ % (nb : Int)).toNat, by omega⟩
  rw [hk] at hq0 hq1
  have hkn : k < nb := by omega
  have cC := Lib.hid (fun (w1 : World) (a : Addr) (c : Nat) (h : Oc w1 w1.heap.size (.slice (some a) nb c) bs) (O : Only (fun _ => False) w w1) => cut (q := bs.take k) (s := bs.drop k) (Nat.le_refl _) (h.take hnb (Nat.le_of_lt hkn)) hwr hv0 (by rw [List.take_append_drop]; exact hfull) (by intro e; have := congrArg List.length e; simp at this; omega) (by simp; omega) (ei_up hI O))
  have e1 : IntKind.i64.wrap at_ = at_ := by unfold IntKind.wrap; simp [IntKind.signed, IntKind.bits]; omega
  have e3 : ¬ ((nb : Int) = 0) := by omega
  have e4 : Int.tmod at_ (nb : Int) = k := by rw [Int.tmod_eq_emod_of_nonneg ha0]; exact hk
  have e5 : wrap64 (k : Int) = k := by unfold wrap64; unfold lim at hb; omega
  have e6 : ((nb : Int) == 0) = false := by simpa using e3
  have HK := Lib.hid hkn
  obtain ⟨n0, A1, m1, c1, nl, A2, m2, c2, A3, m3, c3, rfl⟩ := hT.form
  have HSq : Hid (∀ w', Only (fun _ => False) (w.alloc (.cells #[.int .i64 n0, .slice A1 m1 c1, .bool nl, .slice A2 m2 c2, .slice A3 m3 c3] 26)) w' → w'.cell? ⟨w.heap.size, 0, none⟩ = some (.int .i64 n0) ∧ w'.cell? ⟨w.heap.size, 1, none⟩ = some (.slice A1 m1 c1) ∧ w'.cell? ⟨w.heap.size, 2, none⟩ = some (.bool nl) ∧ w'.cell? ⟨w.heap.size, 3, none⟩ = some (.slice A2 m2 c2) ∧ w'.cell? ⟨w.heap.size, 4, none⟩ = some (.slice A3 m3 c3)) :=
    Lib.hid fun w' h => ⟨boxN h 0 rfl, boxN h 1 rfl, boxN h 2 rfl, boxN h 3 rfl, boxN h 4 rfl⟩
  have HO0 : Hid (Only (fun _ => False) w (w.alloc (.cells #[.int .i64 n0, .slice A1 m1 c1, .bool nl, .slice A2 m2 c2, .slice A3 m3 c3] 26))) := Lib.hid ((Only.refl _ _).alloc _)
  clear hB hT hI hn0 hn1 ha0 ha1 hne hv0 hv1 hwr hb hfull hpc hnb hq0 hq1 hk hkn
  go_enter Tryz.func3, Tryz.ntmps3
  go_wp2_with (first
    | (go_at_call 5; refine (cF.out _ HO0.out).mono ?_; rintro e1 w1 ⟨bb, rfl, hO1⟩; have HO1 := Lib.hid hO1; clear hO1 cF; cases bb)
    | (go_at_call 6; refine (max_calls _).mono ?_; rintro e2 w2 ⟨rfl, hO2⟩; have HO2 := Lib.hid (HO1.out.trans hO2); clear hO2)
    | fail)
  · go_ret
    exact ⟨rfl, HO0.out.trans HO1.out⟩
  have HD2 := Lib.hid (HO2.out.drew)
  go_region_held3 (fun w' => w'.cell? ⟨w.heap.size, 0, none⟩ = some (.int .i64 n0) ∧ w'.cell? ⟨w.heap.size, 1, none⟩ = some (.slice A1 m1 c1) ∧ w'.cell? ⟨w.heap.size, 2, none⟩ = some (.bool nl) ∧ w'.cell? ⟨w.heap.size, 3, none⟩ = some (.slice A2 m2 c2) ∧ w'.cell? ⟨w.heap.size, 4, none⟩ = some (.slice A3 m3 c3))
    (first | exact HSq.out _ HD2.out | exact HSq.out _ HO3.out | exact HSq.out _ HO5.out)
    (first
      | (go_at_call 8; refine (YBrokerHeartbeatRequest.spec _).mono ?_; rintro e3 w3 ⟨A4, n4, c4, rfl, hF3, hO3⟩; have HF3 := Lib.hid hF3; have HO3 := Lib.hid (HD2.out.trans hO3); clear hF3 hO3)
      | (go_at_call 9; refine (cV.out _).mono ?_; rintro e4 w4 ⟨rfl, hw4⟩; subst w4)
      | (go_at_call 7; refine (cW.out w3 A4 n4 c4 HF3.out (HO0.out.trans HO3.out)).mono ?_; rintro e5 w5 ⟨ab, cb, rfl, hle, ho5, hO5⟩; have HC5 := Lib.hid ho5; have HO5 := Lib.hid (HO3.out.trans hO5); have HLE := Lib.hid hle; clear ho5 hO5 hle cW))
  go_wp2_with (first
    | (go_at_call 9; refine (cV.out _).mono ?_; rintro e4 w4 ⟨rfl, hw4⟩; subst w4)
    | (go_at_call 10; refine (cA.out w5 _ HC5.out (HO0.out.trans HO5.out)).mono ?_; rintro e6 w6 ⟨A6, n6, c6, rfl, hO6, _⟩; have HO6 := Lib.hid (HO5.out.trans hO6); have HC6 := Lib.hid ((HC5.out.keep (hO6.kept0 (Nat.le_refl _))).more hO6.size); clear hO6 cA)
    | fail)
  have HD6 := Lib.hid (HO6.out.drew)
  have HC6d : Hid (Oc w6.drew w6.drew.heap.size (.slice (some ab) nb cb) bs) := Lib.hid (HC6.out.keep ((Only.refl (fun _ => False) w6).drew.kept0 (Nat.le_refl _)))
  have hkn := HK.out
  have hle := HLE.out
  go_region_with (first
      | (go_at_call 9; refine (cV.out _).mono ?_; rintro e4 w4 ⟨rfl, hw4⟩; subst w4)
      | (go_at_call 10; refine (cC.out _ ab cb HC6d.out (HO0.out.trans HD6.out)).mono ?_; rintro e7 w7 ⟨rfl, hO7⟩; have HO7 := Lib.hid (HD6.out.trans hO7); clear hO7 cC)
      | fail)
  all_goals go_wp2_with fail
  all_goals go_ret
  all_goals exact ⟨rfl, HO0.out.trans HO7.out⟩

/-! ### the row and the card -/
open Go.ChangeShapes Go.WideShapes Go.ChangeAt
set_option maxRecDepth 100000 in
theorem contract (H : Type) (enc : TypeId × Value → H) (W : World) (base : Nat) (args : Array Value) (ds gs : List (DataW H)) (before : List MemPlace)
    (hval : ∀ (j : Nat) t v, Tryz.f3.params[j]? = some t → args[j]? = some v → Value.okWide Tryz.prog W .any base t v)
    (hW : DataW.Whole enc Tryz.prog Tryz.f3.params.toList Rows.fnCutBrokerHeartbeatRequestSpec.vars false W args.toList ds gs before) (hL : laidMetH Tryz.prog Rows.fnCutBrokerHeartbeatRequestRow.laid W) :
    Calls Tryz.prog 3 args W fun e W' => ∃ v, e = .returned v ∧ Rows.fnCutBrokerHeartbeatRequestSpec.post enc Tryz.prog Tryz.f3 false true false false W args v W' := by
  have hW' := hW
  obtain ⟨p, q, hA0, hV, rfl, hfz, hnd⟩ := hW
  have hA : DataW.TrodAll enc Tryz.prog W 0 (fun _ => true) true Tryz.f3.params.toList args.toList ds p := hA0
  rw [Tryz.params3] at hA hval
  obtain ⟨v0, vs0, d0, ds0, p0, q0, hargs, rfl, rfl, h0, r0⟩ := trodAll_cons hA
  obtain ⟨v1, vs1, d1, ds1, p1, q1, rfl, rfl, rfl, h1, r1⟩ := trodAll_cons r0
  obtain ⟨v2, vs2, d2, ds2, p2, q2, rfl, rfl, rfl, h2, r2⟩ := trodAll_cons r1
  obtain ⟨rfl, rfl, rfl⟩ := trodAll_nil r2
  obtain rfl : args = #[v0, v1, v2] := by cases args; simp_all
  obtain ⟨n, rfl, _, _, wn⟩ := open_int Tryz.underlying5 (hval 0 5 v0 rfl rfl) h0
  have hn : 0 ≤ n ∧ n ≤ 255 := by simpa [Lit.wf, IntKind.min, IntKind.max, IntKind.signed, IntKind.bits] using wn
  obtain ⟨t, ts, rfl, hT⟩ := tr_open treeT (hval 1 26 v1 rfl rfl) h1
  obtain ⟨n2, rfl, _, _, wn2⟩ := open_int Tryz.underlying27 (hval 2 27 v2 rfl rfl) h2
  have hn2 : 0 ≤ n2 ∧ n2 ≤ 65535 := by simpa [Lit.wf, IntKind.min, IntKind.max, IntKind.signed, IntKind.bits] using wn2
  refine (law (Nat.le_refl _) hT (ei_laid hL) hn.1 (by omega) hn2.1 (by omega)).mono fun e W' ⟨he, hO⟩ => ?_
  subst he
  exact ⟨_, rfl, law_post laidOut hW' rfl (by
    rw [Tryz.params3]
    intro t ht
    have e : t = 5 ∨ t = 26 ∨ t = 27 := (by simpa using ht)
    rcases e with rfl | rfl | rfl <;> exact ⟨by kernel_rfl, of_decide_eq_true (by kernel_rfl)⟩) rfl rfl rfl (by kernel_rfl) Tryz.underlying4 hO⟩
theorem laid_met (os : Os) : laidMet Tryz.prog Rows.fnCutBrokerHeartbeatRequestRow.laid ((laidWorld os).forCall (fun _ _ => 0) ⟨#[], #[.int .u8 0, .agg #[.int .i64 0, .slice none 0 0, .bool false, .slice none 0 0, .slice none 0 0], .int .u16 0], []⟩).memory :=
  laidMet_of_run' 8 (by kernel_rfl) (by kernel_rfl)
theorem reads (os : Os) {H : Type} (enc : TypeId × Value → H) : ∃ places, DataW.whole enc Tryz.prog ((laidWorld os).forCall (fun _ _ => 0) ⟨#[], #[.int .u8 0, .agg #[.int .i64 0, .slice none 0 0, .bool false, .slice none 0 0, .slice none 0 0], .int .u16 0], []⟩).memory Tryz.f3.params.toList Rows.fnCutBrokerHeartbeatRequestSpec.vars false (#[.int .u8 0, .agg #[.int .i64 0, .slice none 0 0, .bool false, .slice none 0 0, .slice none 0 0], .int .u16 0] : Array Value).toList 8 = some ([.lit (.int .u8 0), .agg [.lit (.int .i64 0), .nil, .lit (.bool false), .nil, .nil], .lit (.int .u16 0)], [], places) :=
  ⟨[], by kernel_rfl⟩

set_option maxRecDepth 100000 in
theorem lifted (os : Os) (started : os.Started) (H : Type) (enc : TypeId × Value → H) (F : Stop.Interp) :
    ReturnsInHanded {} Tryz.checked os 3 .any ((OpenSpec.ofChange Rows.fnCutBrokerHeartbeatRequestSpec).preRow enc Tryz.prog Tryz.f3 Rows.fnCutBrokerHeartbeatRequestRow.domain false Rows.fnCutBrokerHeartbeatRequestRow.laid) (((OpenSpec.ofChange Rows.fnCutBrokerHeartbeatRequestSpec).at F).post enc Tryz.prog Tryz.f3 false true false false) := by
  obtain ⟨places, hx⟩ := reads os enc
  refine returnsInHanded_of_row (C := Tryz.checked) (s := OpenSpec.ofChange Rows.fnCutBrokerHeartbeatRequestSpec) own started (by kernel_rfl) Tryz.func3
    (witness_row_at (enc := enc) (C := Tryz.checked) false (laidWorld os) #[.int .u8 0, .agg #[.int .i64 0, .slice none 0 0, .bool false, .slice none 0 0, .slice none 0 0], .int .u16 0] rfl (by kernel_rfl) (by kernel_rfl) (by kernel_rfl)
      (OpenSpec.preRow_of_cond 8 hx (by kernel_rfl) (fun k hk => by cases hk) (by kernel_rfl) (laid_met os))) ?_
  intro W base args ds gs before hval hW _ _ _ hL _ _
  exact contract H enc W base args ds gs before hval hW hL

set_option maxRecDepth 100000 in
theorem closed : joinedFacts Tryz.pinned.checked.prog 3 Tryz.f3 (OpenSpec.ofChange Rows.fnCutBrokerHeartbeatRequestSpec).bare Rows.fnCutBrokerHeartbeatRequestRow = true := by kernel_rfl
set_option maxRecDepth 100000 in
theorem named : Tryz.pinned.checked.prog.funcNamed Rows.fnCutBrokerHeartbeatRequestRow.func = some 3 := by kernel_rfl
set_option maxRecDepth 100000 in
theorem said : Rows.FnCutBrokerHeartbeatRequestSaid :=
  OpenClaim.holds_of_cond 3 Tryz.f3 rfl rfl rfl rfl rfl rfl rfl ⟨rfl, rfl, rfl, rfl, rfl⟩ rfl rfl rfl rfl rfl named Tryz.func3 closed
    (of_decide_eq_true (by kernel_rfl)) (by unfold Func.isWrapper; first | (rw [if_pos (by decide +kernel)]; kernel_rfl) | (rw [if_neg (by decide +kernel)]; exact ⟨rfl, rfl⟩))
    (fun os started H enc _ F => by rw [OpenClaim.pre_eq_preRow]; exact lifted os started H enc F)

theorem plain (f : FuncId) (fn : Func) (hf : Tryz.pinned.checked.prog.funcNamed "pub-kmsg/laws.FnCutBrokerHeartbeatRequest" = some f) (hfn : Tryz.pinned.checked.prog.funcs[f]? = some fn) :
    false = Tryz.pinned.checked.prog.looks [] ∧ ∀ (j : Nat) t, fn.params[j]? = some t → Tryz.pinned.checked.prog.wantsStandIn t = false := by
  obtain rfl : f = 3 := Option.some.inj ((show Tryz.prog.funcNamed "pub-kmsg/laws.FnCutBrokerHeartbeatRequest" = some 3 by kernel_rfl).symm.trans hf) |>.symm
  obtain rfl : fn = Tryz.f3 := (Option.some.inj (Tryz.func3.symm.trans hfn)).symm
  refine ⟨by kernel_rfl, fun j t ht => ?_⟩
  rw [Tryz.params3] at ht
  have ht' := Array.mem_of_getElem? ht
  have e : t = 5 ∨ t = 26 ∨ t = 27 := (by simpa using ht')
  rcases e with rfl | rfl | rfl
  all_goals exact (show Tryz.prog.wantsStandIn _ = false by kernel_rfl)

/-- The card. -/
theorem card : Rows.FnCutBrokerHeartbeatRequestCardSaid :=
  Claim7.holds_tied_plain_at .later [] _ _ _ _ said (fun _ h => by cases h) (by kernel_rfl) (fun _ h => by cases h) fnCutBrokerHeartbeatRequest_row_tie rfl ⟨rfl, rfl⟩ (by kernel_rfl) rfl plain (by kernel_rfl)
end Go.Proofs.YtpefipjgcpchaaaGreatDoorR.Kf.LFnCutBrokerHeartbeatRequest
