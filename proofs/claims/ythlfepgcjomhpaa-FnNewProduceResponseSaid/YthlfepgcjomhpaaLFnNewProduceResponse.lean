/- A new ProduceResponse, written at whatever version it has, is what the reference writes of its defaults: the law FnNewProduceResponse returns true at every input and lets its arguments be. -/
import Derived.Test.YthlfepgcjomhpaaPrW
import Derived.Test.YthlfepgcjomhpaaSpW
import Derived.Test.YthlfepgcjomhpaaYProduceResponse
import Derived.Test.YthlfepgcjomhpaaPG
import Derived.Test.YthlfepgcjomhpaaSpI
import Derived.Test.YthlfepgcjomhpaaLawB
import Derived.Test.YthlfepgcjomhpaaRowB
import Derived.Test.YthlfepgcjomhpaaRows
import Derived.ProofKit
namespace Go.Proofs.Ythlfepgcjomhpaa.Kf.LFnNewProduceResponse
set_option linter.unusedVariables false
set_option linter.unusedSimpArgs false
open Go Go.RowKit MProduceResponse

def mx : Int := 13
/-- What is written, and what the reference writes. -/
def outF (ver : Int) : List UInt8 := toU YProduceResponse.fs ver (fxOf YProduceResponse.fx ver) (dR 3 YProduceResponse.fs).l YProduceResponse.fs.length ++ (if fxOf YProduceResponse.fx ver then uvEnc 0 else [])
theorem same (ver : Int) (h0 : 0 ≤ ver) (h1 : ver ≤ mx) : outF ver = outP ver ∧ (outP ver).length ≤ 1000 ∧ ∀ k, k ≤ YProduceResponse.fs.length → (toU YProduceResponse.fs ver (fxOf YProduceResponse.fx ver) (dR 3 YProduceResponse.fs).l k).length ≤ 1000 := by
  have : ver = 0 ∨ ver = 1 ∨ ver = 2 ∨ ver = 3 ∨ ver = 4 ∨ ver = 5 ∨ ver = 6 ∨ ver = 7 ∨ ver = 8 ∨ ver = 9 ∨ ver = 10 ∨ ver = 11 ∨ ver = 12 ∨ ver = 13 := by unfold mx at h1; omega
  rcases this with rfl | rfl | rfl | rfl | rfl | rfl | rfl | rfl | rfl | rfl | rfl | rfl | rfl | rfl <;> refine ⟨by kernel_rfl, of_decide_eq_true (by kernel_rfl), fun k hk => ?_⟩
  all_goals
    have hk' : k = 0 ∨ k = 1 ∨ k = 2 ∨ k = 3 := by have : k ≤ 3 := hk; omega
    rcases hk' with rfl | rfl | rfl | rfl <;> exact of_decide_eq_true (by kernel_rfl)
theorem us (flex : Bool) (ver : Int) (hb : ∀ k, k ≤ YProduceResponse.fs.length → (toU YProduceResponse.fs ver flex (dR 3 YProduceResponse.fs).l k).length ≤ 1000) : UsP flex YProduceResponse.fs ver (dR 3 YProduceResponse.fs) := by
  refine ⟨by decide, fun i h => ?_, hb, rfl⟩
  have hi : i = 0 ∨ i = 1 ∨ i = 2 := by have : i < 3 := h; omega
  rcases hi with rfl | rfl | rfl
  · exact .inl ⟨(show (-1 : Int) < 0 by decide), fun w B cs ver ts hB hF hT hl => sp_field0 flex w B _ cs ver _ ts rfl rfl hB hF hT hl⟩
  · exact .inl ⟨(show (-1 : Int) < 0 by decide), fun w B cs ver ts hB hF hT hl => field_any flex _ rfl rfl w B cs ver _ ts hB hF hT hl⟩
  · exact .inr ⟨(show (0 : Int) ≤ 0 by decide), (show (0 : Int) ≤ 1000 by decide), rfl, rfl⟩
theorem partm (ver : Int) (h0 : 0 ≤ ver) (h1 : ver ≤ mx) (w : World) (B : Nat) (v : Value) (ts : List Value) (hB : B ≤ w.heap.size) (hF : FldsC w B YProduceResponse.fs v) (hT : TrC w B (dR 3 YProduceResponse.fs) ts) :
    Calls Try.prog 32 #[v, .int .i64 ver, .bool (fxOf YProduceResponse.fx ver), .agg ts.toArray] w (SpP 5 w (outF ver)) := by
  have hb := (same ver h0 h1).2.2
  unfold outF
  cases hfx : fxOf YProduceResponse.fx ver
  · rw [hfx] at hb
    rw [if_neg (by decide), List.append_nil]
    exact part_us_false YProduceResponse.fs ver _ (us false ver hb) w B v ts hB hF hT
  · rw [hfx] at hb
    rw [if_pos rfl]
    exact part_us_true YProduceResponse.fs ver _ (us true ver hb) w B v ts hB hF hT
set_option maxRecDepth 100000 in
set_option maxHeartbeats 1000000 in
theorem law {w : World} {n : Int} (hn0 : 0 ≤ n) (hn1 : n < 256) : Calls Try.prog 4 #[.int .u8 n] w fun e w' => e = .returned (.bool true) ∧ Only (fun _ => False) w w' := by
  have hv0 : 0 ≤ n % (mx + 1) := Int.emod_nonneg _ (by decide)
  have hv1 : n % (mx + 1) ≤ mx := by have := Int.emod_lt_of_pos n (show (0 : Int) < mx + 1 by decide); omega
  have hwr : IntKind.i16.wrap (n % (mx + 1)) = n % (mx + 1) := by unfold IntKind.wrap; unfold mx at *; simp [IntKind.signed, IntKind.bits] <;> omega
  have cV := Lib.hid (fun (w1 : World) => version_c w1 n mx hn0 hn1 (by decide) (by decide))
  generalize n % (mx + 1) = ver at *
  obtain ⟨s1, s2, _⟩ := same ver hv0 hv1
  have hpc := partm ver hv0 hv1
  rw [s1] at hpc
  have cN := Lib.hid (fun (w1 : World) => (new_msg (w := w1) hwr).mono (R' := OcP (outP ver) w1) fun e w' h => ocP_of h)
  have cD := Lib.hid (fun (w1 : World) (B : Nat) (A1 : Option Addr) (n1 c1 : Nat) (hB : B ≤ w1.heap.size) (hF : FldsC w1 B YProduceResponse.fs (.slice A1 n1 c1)) => sp_default3 3 w1 B YProduceResponse.fs (.slice A1 n1 c1) hB hF (by decide) (by decide))
  have cW := Lib.hid (fun (w1 : World) (A1 : Option Addr) (n1 c1 : Nat) (ts : List Value) (hF : FldsC w1 w1.heap.size YProduceResponse.fs (.slice A1 n1 c1)) (hT : TrC w1 w1.heap.size (dR 3 YProduceResponse.fs) ts) => (sp_writeT w1 w1.heap.size YProduceResponse.fs (.slice A1 n1 c1) YProduceResponse.fx ver (dR 3 YProduceResponse.fs) ts (Nat.le_refl _) hF hT (fun w' ho => hpc w' w1.heap.size _ _ ho.size (hF.keep (ho.kept0 (Nat.le_refl _))) (hT.keep (ho.kept0 (Nat.le_refl _))))).mono (R' := OcP (outP ver) w1) fun e w' h => ocP_of h)
  have cS := Lib.hid (fun (w1 : World) (v u : Value) (h : Oc w1 w1.heap.size v (outP ver)) (k : Oc w1 w1.heap.size u (outP ver)) => sp_same w1 w1.heap.size v u _ (Nat.le_refl _) h k (by unfold lim2; omega))
  generalize outP ver = out at *
  clear hn0 hn1 hv0 hv1 hwr hpc s1 s2
  go_enter Try.func4, Try.ntmps4
  go_wp2_with (first
    | (go_at_call 14; refine (max_calls _).mono ?_; rintro e2 w2 ⟨rfl, hO2⟩; have HO2 := Lib.hid hO2; clear hO2)
    | (go_at_call 15; refine (YProduceResponse.spec _).mono ?_; rintro e3 w3 ⟨A4, n4, c4, rfl, hF3, hO3⟩; have HF3 := Lib.hid hF3; have HO3 := Lib.hid (HO2.out.trans hO3); clear hF3 hO3)
    | fail)
  obtain ⟨w4, hw4⟩ : ∃ w4, w3.alloc (.cells #[.slice A4 n4 c4, .int .i64 YProduceResponse.fx] 40) = w4 := ⟨_, rfl⟩
  have o34 : Only (fun _ => False) w3 w4 := by rw [← hw4]; exact (Only.refl _ _).alloc _
  have HQ : Hid (∀ w', Only (fun _ => False) w4 w' → w'.cell? ⟨w3.heap.size, 0, none⟩ = some (.slice A4 n4 c4) ∧ w'.cell? ⟨w3.heap.size, 1, none⟩ = some (.int .i64 YProduceResponse.fx)) := Lib.hid fun w' h => by rw [← hw4] at h; exact ⟨boxN h 0 rfl, boxN h 1 rfl⟩
  have HFK : Hid (∀ w', Only (fun _ => False) w4 w' → FldsC w' w3.heap.size YProduceResponse.fs (.slice A4 n4 c4)) := Lib.hid fun w' h => HF3.out.keep ((o34.trans h).kept0 (Nat.le_refl _))
  have HO4 := Lib.hid (HO3.out.trans o34)
  have HSZ : Hid (w3.heap.size ≤ w4.heap.size) := Lib.hid o34.size
  have HD4 : Hid (Only (fun _ => False) w4 w4.drew) := Lib.hid ((Only.refl _ _).drew)
  change Code.wp _ _ _ _ (w3.alloc (.cells #[.slice A4 n4 c4, .int .i64 YProduceResponse.fx] 40))
  rw [hw4]
  clear hw4 o34 HF3 HO3 HO2
  go_region_held3 (fun w' => w'.cell? ⟨w3.heap.size, 0, none⟩ = some (.slice A4 n4 c4) ∧ w'.cell? ⟨w3.heap.size, 1, none⟩ = some (.int .i64 YProduceResponse.fx))
    (first | exact HQ.out _ HD4.out | exact HQ.out _ HO5.out | exact HQ.out _ HO6.out | exact HQ.out _ HO7.out | exact HQ.out _ HO8.out)
    (first
      | (go_at_call 18; refine (cV.out _).mono ?_; rintro e4 w9 ⟨rfl, hw9⟩; subst w9)
      | (go_at_call 17; refine (cN.out w4.drew).mono ?_; rintro e5 w5 ⟨A5, n5, c5, rfl, ho5, hO5⟩; have HC5 := Lib.hid ho5; have HO5 := Lib.hid (HD4.out.trans hO5); clear ho5 hO5 cN)
      | (go_at_call 20; refine (cD.out w5 w3.heap.size A4 n4 c4 (Nat.le_trans HSZ.out HO5.out.size) (HFK.out _ HO5.out)).mono ?_; rintro e6 w6 ⟨A6, n6, c6, rfl, hT6, hO6⟩; have HT6 := Lib.hid hT6; have HO6 := Lib.hid (HO5.out.trans hO6); have HC6 := Lib.hid ((HC5.out.keep (hO6.kept0 (Nat.le_refl _))).more hO6.size); clear hT6 hO6 cD HC5)
      | (go_at_call 19; refine (cW.out w6 A4 n4 c4 _ ((HFK.out _ HO6.out).more (Nat.le_trans HSZ.out HO6.out.size)) HT6.out).mono ?_; rintro e7 w7 ⟨A7, n7, c7, rfl, ho7, hO7⟩; have HC7 := Lib.hid ho7; have HO7 := Lib.hid (HO6.out.trans hO7); have HC8 := Lib.hid ((HC6.out.keep (hO7.kept0 (Nat.le_refl _))).more hO7.size); clear ho7 hO7 cW HC6)
      | (go_at_call 16; refine (cS.out w7 _ _ HC8.out HC7.out).mono ?_; rintro e8 w8 ⟨rfl, hO8⟩; have HO8 := Lib.hid (HO7.out.trans hO8); clear hO8 cS))
  go_wp2_with fail
  go_ret
  exact ⟨rfl, HO4.out.trans HO8.out⟩

/-! ### the row -/
open Go.ChangeShapes Go.WideShapes Go.ChangeAt
theorem own : ownKnob Try.prog.godebug = none := by kernel_rfl
theorem laidOut : laidOutB Try.prog = true := by kernel_rfl
set_option maxRecDepth 100000 in
theorem lifted (os : Os) (started : os.Started) (H : Type) (enc : TypeId × Value → H) :
    ReturnsInHanded {} Try.checked os 4 .any (Rows.fnNewProduceResponseSpec.pre6 enc Try.prog Try.f4 Rows.fnNewProduceResponseRow.domain false) (Rows.fnNewProduceResponseSpec.post enc Try.prog Try.f4 false true false false) := by
  refine returnsInHanded_of_change (C := Try.checked) own started (by kernel_rfl) Try.func4
    (ChangeSpec.witness6 (enc := enc) (C := Try.checked) false ⟨#[], #[.int .u8 0], []⟩ 8 (by kernel_rfl) (by kernel_rfl) (by kernel_rfl) (by kernel_rfl)) ?_
  intro W base args ds gs before hval0 hW hcnd _
  have hval : ∀ (j : Nat) t v, Try.f4.params[j]? = some t → args[j]? = some v → Value.okWide Try.prog W .any base t v := hval0
  have hW' := hW
  obtain ⟨p, q, hA0, hV, rfl, hfz, hnd⟩ := hW
  have hA : DataW.TrodAll enc Try.prog W 0 (fun _ => true) true Try.f4.params.toList args.toList ds p := hA0
  rw [Try.params4] at hA hval
  obtain ⟨v0, vs0, d0, ds0, p0, q0, hargs, rfl, rfl, h0, r0⟩ := trodAll_cons hA
  obtain ⟨rfl, rfl, rfl⟩ := trodAll_nil r0
  obtain rfl : args = #[v0] := by cases args; simp_all
  obtain ⟨n, rfl, _, _, wn⟩ := open_int Try.underlying5 (hval 0 5 v0 rfl rfl) h0
  have hn : 0 ≤ n ∧ n ≤ 255 := by simpa [Lit.wf, IntKind.min, IntKind.max, IntKind.signed, IntKind.bits] using wn
  refine (law hn.1 (by omega)).mono fun e W' ⟨he, hO⟩ => ?_
  subst he
  exact ⟨_, rfl, law_post laidOut hW' rfl (by
    rw [Try.params4]
    intro t ht
    have e : t = 5 := (by simpa using ht)
    rcases e with rfl <;> exact ⟨by kernel_rfl, of_decide_eq_true (by kernel_rfl)⟩) rfl rfl rfl (by kernel_rfl) Try.underlying4 hO⟩
set_option maxRecDepth 100000 in
theorem closed : joinedFacts Try.pinned.checked.prog 4 Try.f4 (OpenSpec.ofChange Rows.fnNewProduceResponseSpec).bare Rows.fnNewProduceResponseRow = true := by kernel_rfl
set_option maxRecDepth 100000 in
theorem named : Try.pinned.checked.prog.funcNamed Rows.fnNewProduceResponseRow.func = some 4 := by kernel_rfl
set_option maxRecDepth 100000 in
theorem said : Rows.FnNewProduceResponseSaid :=
  OpenClaim.holds_of_wide 4 Try.f4 rfl rfl rfl rfl rfl rfl rfl ⟨rfl, rfl, rfl, rfl, rfl⟩ rfl rfl rfl rfl rfl named Try.func4 closed
    (of_decide_eq_true (by kernel_rfl)) (by unfold Func.isWrapper; first | (rw [if_pos (by decide +kernel)]; kernel_rfl) | (rw [if_neg (by decide +kernel)]; exact ⟨rfl, rfl⟩))
    (fun os started H enc _ => lifted os started H enc)
end Go.Proofs.Ythlfepgcjomhpaa.Kf.LFnNewProduceResponse
