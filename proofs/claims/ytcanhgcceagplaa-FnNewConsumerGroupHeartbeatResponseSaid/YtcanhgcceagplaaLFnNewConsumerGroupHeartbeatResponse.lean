/- A new ConsumerGroupHeartbeatResponse, written at whatever version it has, is what the reference writes of its defaults: the law FnNewConsumerGroupHeartbeatResponse returns true at every input and lets its arguments be. -/
import Derived.Test.YtcanhgcceagplaaMConsumerGroupHeartbeatResponse
import Derived.Test.YtcanhgcceagplaaYConsumerGroupHeartbeatResponse
import Derived.Test.YtcanhgcceagplaaPG
import Derived.Test.YtcanhgcceagplaaSpI
import Derived.Test.YtcanhgcceagplaaLawB
import Derived.Test.YtcanhgcceagplaaRowB
import Derived.Test.YtcanhgcceagplaaRows
import Derived.ProofKit
namespace Go.Proofs.Ytcanhgcceagplaa.Kf.LFnNewConsumerGroupHeartbeatResponse
set_option linter.unusedVariables false
set_option linter.unusedSimpArgs false
open Go Go.RowKit MConsumerGroupHeartbeatResponse

def mx : Int := 1
def xOf (ver : Int) : Val := (a.x0 ver (flexOf (some 0) ver) (zs ver)).getD .unit
theorem wf_of {w : W} {x : Val} (h : dec w (enc w x) = some (x, [])) (hl : (enc w x).length ≤ 32767) : wf w x := (dec_use _ _ _ _ h hl).1
/-- What is written, and what the reference writes. -/
theorem same (ver : Int) (h0 : 0 ≤ ver) (h1 : ver ≤ mx) : a.x0 ver (flexOf (some 0) ver) (zs ver) = some (xOf ver) ∧ wf (a.m ver (flexOf (some 0) ver)).w (xOf ver) ∧
    (enc (a.m ver (flexOf (some 0) ver)).w (xOf ver)).length ≤ 1000 ∧ enc (a.m ver (flexOf (some 0) ver)).w (xOf ver) = partB YConsumerGroupHeartbeatResponse.fs ver (fxOf YConsumerGroupHeartbeatResponse.fx ver) (dR 3 YConsumerGroupHeartbeatResponse.fs) := by
  have : ver = 0 ∨ ver = 1 := by unfold mx at h1; omega
  rcases this with rfl | rfl <;> exact ⟨by kernel_rfl, wf_of (by kernel_rfl) (of_decide_eq_true (by kernel_rfl)), of_decide_eq_true (by kernel_rfl), by kernel_rfl⟩
theorem partm (ver : Int) : PartC (fxOf YConsumerGroupHeartbeatResponse.fx ver) YConsumerGroupHeartbeatResponse.fs := part_any _ YConsumerGroupHeartbeatResponse.fs rfl rfl (by decide)
set_option maxRecDepth 100000 in
set_option maxHeartbeats 1000000 in
theorem law {w : World} {n : Int} (hn0 : 0 ≤ n) (hn1 : n < 256) : Calls Try.prog 3 #[.int .u8 n] w fun e w' => e = .returned (.bool true) ∧ Only (fun _ => False) w w' := by
  have hv0 : 0 ≤ n % (mx + 1) := Int.emod_nonneg _ (by decide)
  have hv1 : n % (mx + 1) ≤ mx := by have := Int.emod_lt_of_pos n (show (0 : Int) < mx + 1 by decide); omega
  have hwr : IntKind.i16.wrap (n % (mx + 1)) = n % (mx + 1) := by unfold IntKind.wrap; unfold mx at *; simp [IntKind.signed, IntKind.bits] <;> omega
  have cV := Lib.hid (fun (w1 : World) => version_c w1 n mx hn0 hn1 (by decide) (by decide))
  generalize n % (mx + 1) = ver at *
  obtain ⟨s1, s2, s3, s4⟩ := same ver hv0 hv1
  have hpc := partm ver
  have cN := Lib.hid (fun (w1 : World) => (new_msg (w := w1) hwr s1 s2 (by unfold lim2; omega)).mono (R' := OcP (enc (a.m ver (flexOf (some 0) ver)).w (xOf ver)) w1) fun e w' h => ocP_of h)
  have cD := Lib.hid (fun (w1 : World) (B : Nat) (A1 : Option Addr) (n1 c1 : Nat) (hB : B ≤ w1.heap.size) (hF : FldsC w1 B YConsumerGroupHeartbeatResponse.fs (.slice A1 n1 c1)) => sp_default3 3 w1 B YConsumerGroupHeartbeatResponse.fs (.slice A1 n1 c1) hB hF (by decide) (by decide))
  have cW := Lib.hid (fun (w1 : World) (A1 : Option Addr) (n1 c1 : Nat) (ts : List Value) (hF : FldsC w1 w1.heap.size YConsumerGroupHeartbeatResponse.fs (.slice A1 n1 c1)) (hT : TrC w1 w1.heap.size (dR 3 YConsumerGroupHeartbeatResponse.fs) ts) => (sp_write w1 w1.heap.size YConsumerGroupHeartbeatResponse.fs (.slice A1 n1 c1) YConsumerGroupHeartbeatResponse.fx ver (dR 3 YConsumerGroupHeartbeatResponse.fs) ts (Nat.le_refl _) hF hT hpc (by rw [← s4]; unfold lim2; omega)).mono (R' := OcP (partB YConsumerGroupHeartbeatResponse.fs ver (fxOf YConsumerGroupHeartbeatResponse.fx ver) (dR 3 YConsumerGroupHeartbeatResponse.fs)) w1) fun e w' h => ocP_of h)
  rw [← s4] at cW
  have cS := Lib.hid (fun (w1 : World) (v u : Value) (h : Oc w1 w1.heap.size v (enc (a.m ver (flexOf (some 0) ver)).w (xOf ver))) (k : Oc w1 w1.heap.size u (enc (a.m ver (flexOf (some 0) ver)).w (xOf ver))) => sp_same w1 w1.heap.size v u _ (Nat.le_refl _) h k (by unfold lim2; omega))
  generalize enc (a.m ver (flexOf (some 0) ver)).w (xOf ver) = out at *
  clear hn0 hn1 hv0 hv1 hwr hpc s1 s2 s3 s4
  go_enter Try.func3, Try.ntmps3
  go_wp2_with (first
    | (go_at_call 6; refine (max_calls _).mono ?_; rintro e2 w2 ⟨rfl, hO2⟩; have HO2 := Lib.hid hO2; clear hO2)
    | (go_at_call 7; refine (YConsumerGroupHeartbeatResponse.spec _).mono ?_; rintro e3 w3 ⟨A4, n4, c4, rfl, hF3, hO3⟩; have HF3 := Lib.hid hF3; have HO3 := Lib.hid (HO2.out.trans hO3); clear hF3 hO3)
    | fail)
  obtain ⟨w4, hw4⟩ : ∃ w4, w3.alloc (.cells #[.slice A4 n4 c4, .int .i64 YConsumerGroupHeartbeatResponse.fx] 25) = w4 := ⟨_, rfl⟩
  have o34 : Only (fun _ => False) w3 w4 := by rw [← hw4]; exact (Only.refl _ _).alloc _
  have HQ : Hid (∀ w', Only (fun _ => False) w4 w' → w'.cell? ⟨w3.heap.size, 0, none⟩ = some (.slice A4 n4 c4) ∧ w'.cell? ⟨w3.heap.size, 1, none⟩ = some (.int .i64 YConsumerGroupHeartbeatResponse.fx)) := Lib.hid fun w' h => by rw [← hw4] at h; exact ⟨boxN h 0 rfl, boxN h 1 rfl⟩
  have HFK : Hid (∀ w', Only (fun _ => False) w4 w' → FldsC w' w3.heap.size YConsumerGroupHeartbeatResponse.fs (.slice A4 n4 c4)) := Lib.hid fun w' h => HF3.out.keep ((o34.trans h).kept0 (Nat.le_refl _))
  have HO4 := Lib.hid (HO3.out.trans o34)
  have HSZ : Hid (w3.heap.size ≤ w4.heap.size) := Lib.hid o34.size
  have HD4 : Hid (Only (fun _ => False) w4 w4.drew) := Lib.hid ((Only.refl _ _).drew)
  change Code.wp _ _ _ _ (w3.alloc (.cells #[.slice A4 n4 c4, .int .i64 YConsumerGroupHeartbeatResponse.fx] 25))
  rw [hw4]
  clear hw4 o34 HF3 HO3 HO2
  go_region_held3 (fun w' => w'.cell? ⟨w3.heap.size, 0, none⟩ = some (.slice A4 n4 c4) ∧ w'.cell? ⟨w3.heap.size, 1, none⟩ = some (.int .i64 YConsumerGroupHeartbeatResponse.fx))
    (first | exact HQ.out _ HD4.out | exact HQ.out _ HO5.out | exact HQ.out _ HO6.out | exact HQ.out _ HO7.out | exact HQ.out _ HO8.out)
    (first
      | (go_at_call 10; refine (cV.out _).mono ?_; rintro e4 w9 ⟨rfl, hw9⟩; subst w9)
      | (go_at_call 9; refine (cN.out w4.drew).mono ?_; rintro e5 w5 ⟨A5, n5, c5, rfl, ho5, hO5⟩; have HC5 := Lib.hid ho5; have HO5 := Lib.hid (HD4.out.trans hO5); clear ho5 hO5 cN)
      | (go_at_call 12; refine (cD.out w5 w3.heap.size A4 n4 c4 (Nat.le_trans HSZ.out HO5.out.size) (HFK.out _ HO5.out)).mono ?_; rintro e6 w6 ⟨A6, n6, c6, rfl, hT6, hO6⟩; have HT6 := Lib.hid hT6; have HO6 := Lib.hid (HO5.out.trans hO6); have HC6 := Lib.hid ((HC5.out.keep (hO6.kept0 (Nat.le_refl _))).more hO6.size); clear hT6 hO6 cD HC5)
      | (go_at_call 11; refine (cW.out w6 A4 n4 c4 _ ((HFK.out _ HO6.out).more (Nat.le_trans HSZ.out HO6.out.size)) HT6.out).mono ?_; rintro e7 w7 ⟨A7, n7, c7, rfl, ho7, hO7⟩; have HC7 := Lib.hid ho7; have HO7 := Lib.hid (HO6.out.trans hO7); have HC8 := Lib.hid ((HC6.out.keep (hO7.kept0 (Nat.le_refl _))).more hO7.size); clear ho7 hO7 cW HC6)
      | (go_at_call 8; refine (cS.out w7 _ _ HC8.out HC7.out).mono ?_; rintro e8 w8 ⟨rfl, hO8⟩; have HO8 := Lib.hid (HO7.out.trans hO8); clear hO8 cS))
  go_wp2_with fail
  go_ret
  exact ⟨rfl, HO4.out.trans HO8.out⟩

/-! ### the row -/
open Go.ChangeShapes Go.WideShapes Go.ChangeAt
theorem own : ownKnob Try.prog.godebug = none := by kernel_rfl
theorem laidOut : laidOutB Try.prog = true := by kernel_rfl
set_option maxRecDepth 100000 in
theorem lifted (os : Os) (started : os.Started) (H : Type) (enc : TypeId × Value → H) :
    ReturnsInHanded {} Try.checked os 3 .any (Rows.fnNewConsumerGroupHeartbeatResponseSpec.pre6 enc Try.prog Try.f3 Rows.fnNewConsumerGroupHeartbeatResponseRow.domain false) (Rows.fnNewConsumerGroupHeartbeatResponseSpec.post enc Try.prog Try.f3 false true false false) := by
  refine returnsInHanded_of_change (C := Try.checked) own started (by kernel_rfl) Try.func3
    (ChangeSpec.witness6 (enc := enc) (C := Try.checked) false ⟨#[], #[.int .u8 0], []⟩ 8 (by kernel_rfl) (by kernel_rfl) (by kernel_rfl) (by kernel_rfl)) ?_
  intro W base args ds gs before hval0 hW hcnd _
  have hval : ∀ (j : Nat) t v, Try.f3.params[j]? = some t → args[j]? = some v → Value.okWide Try.prog W .any base t v := hval0
  have hW' := hW
  obtain ⟨p, q, hA0, hV, rfl, hfz, hnd⟩ := hW
  have hA : DataW.TrodAll enc Try.prog W 0 (fun _ => true) true Try.f3.params.toList args.toList ds p := hA0
  rw [Try.params3] at hA hval
  obtain ⟨v0, vs0, d0, ds0, p0, q0, hargs, rfl, rfl, h0, r0⟩ := trodAll_cons hA
  obtain ⟨rfl, rfl, rfl⟩ := trodAll_nil r0
  obtain rfl : args = #[v0] := by cases args; simp_all
  obtain ⟨n, rfl, _, _, wn⟩ := open_int Try.underlying5 (hval 0 5 v0 rfl rfl) h0
  have hn : 0 ≤ n ∧ n ≤ 255 := by simpa [Lit.wf, IntKind.min, IntKind.max, IntKind.signed, IntKind.bits] using wn
  refine (law hn.1 (by omega)).mono fun e W' ⟨he, hO⟩ => ?_
  subst he
  exact ⟨_, rfl, law_post laidOut hW' rfl (by
    rw [Try.params3]
    intro t ht
    have e : t = 5 := (by simpa using ht)
    rcases e with rfl <;> exact ⟨by kernel_rfl, of_decide_eq_true (by kernel_rfl)⟩) rfl rfl rfl (by kernel_rfl) Try.underlying4 hO⟩
set_option maxRecDepth 100000 in
theorem closed : joinedFacts Try.pinned.checked.prog 3 Try.f3 (OpenSpec.ofChange Rows.fnNewConsumerGroupHeartbeatResponseSpec).bare Rows.fnNewConsumerGroupHeartbeatResponseRow = true := by kernel_rfl
set_option maxRecDepth 100000 in
theorem named : Try.pinned.checked.prog.funcNamed Rows.fnNewConsumerGroupHeartbeatResponseRow.func = some 3 := by kernel_rfl
set_option maxRecDepth 100000 in
theorem said : Rows.FnNewConsumerGroupHeartbeatResponseSaid :=
  OpenClaim.holds_of_wide 3 Try.f3 rfl rfl rfl rfl rfl rfl rfl ⟨rfl, rfl, rfl, rfl, rfl⟩ rfl rfl rfl rfl rfl named Try.func3 closed
    (of_decide_eq_true (by kernel_rfl)) (by unfold Func.isWrapper; first | (rw [if_pos (by decide +kernel)]; kernel_rfl) | (rw [if_neg (by decide +kernel)]; exact ⟨rfl, rfl⟩))
    (fun os started H enc _ => lifted os started H enc)
end Go.Proofs.Ytcanhgcceagplaa.Kf.LFnNewConsumerGroupHeartbeatResponse
