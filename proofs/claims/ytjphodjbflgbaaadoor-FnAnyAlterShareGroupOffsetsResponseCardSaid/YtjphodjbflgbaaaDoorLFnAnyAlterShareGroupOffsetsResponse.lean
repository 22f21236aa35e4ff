/- Whatever few octets are read as a AlterShareGroupOffsetsResponse are written as octets that are read again and written as the same: the law FnAnyAlterShareGroupOffsetsResponse returns true at every input and lets its arguments be. Condition: the errors' variable reads as its initialiser lays it (tied to the program's text). -/
import Derived.Test.YtjphodjbflgbaaaDoorMAlterShareGroupOffsetsResponse
import Derived.Test.YtjphodjbflgbaaaDoorRowC
namespace Go.Proofs.YtjphodjbflgbaaaDoor.Kf.LFnAnyAlterShareGroupOffsetsResponse
set_option linter.unusedVariables false
set_option linter.unusedSimpArgs false
open Go Go.RowKit MAlterShareGroupOffsetsResponse

def mx : Int := 0
theorem okm (ver : Int) (h0 : 0 ≤ ver) (h1 : ver ≤ mx) : (r.m ver (flexOf (some 0) ver)).w.ok = true := by
  have : ver = 0 := by unfold mx at h1; omega
  rcases this with rfl <;> rfl

set_option maxRecDepth 100000 in
set_option maxHeartbeats 400000 in
theorem walk_good {w : World} {B : Nat} {n ver : Int} {A : Option Addr} {c : Nat} {bs out : List UInt8} (hB : B ≤ w.heap.size) (hv : Oc w B (.slice A bs.length c) bs) (hI : EI w) (hl : bs.length ≤ 1000) (hver : n % (mx + 1) = ver) (hwr : IntKind.i16.wrap ver = ver) (hn0 : 0 ≤ n) (hn1 : n < 256)
    (hF : Full (r.m ver (flexOf (some 0) ver)).w out) (hlo : out.length ≤ bs.length) (hd : ∀ {w : World} {vs : Value} {B : Nat}, B ≤ w.heap.size → Oc w B vs bs → EI w → Calls Tryd.prog 19 #[.int .i64 ver, vs] w (FullP 5 out w)) :
    Calls Tryd.prog 6 #[.int .u8 n, .slice A bs.length c] w fun e w' => e = .returned (.bool true) ∧ Only (fun _ => False) w w' := by
  have cV := Lib.hid (fun (w1 : World) => version_c w1 n mx hn0 hn1 (by decide) (by decide))
  rw [hver] at cV
  have cX := Lib.hid (fun (w1 : World) (O : Only (fun _ => False) w w1) => hd (Nat.le_trans hB O.size) (hv.keep (O.kept0 hB)) (ei_up hI O))
  have cO := Lib.hid (fun (w1 : World) (A1 : Option Addr) (n1 c1 : Nat) (h : Oc w1 w1.heap.size (.slice A1 n1 c1) out) (O : Only (fun _ => False) w w1) => full (Nat.le_refl _) h hwr hF (by unfold lim; omega) (ei_up hI O))
  have cS := Lib.hid (fun (w1 : World) (v u : Value) (h : Oc w1 w1.heap.size v out) (k : Oc w1 w1.heap.size u out) => sp_same w1 w1.heap.size v u _ (Nat.le_refl _) h k (by unfold lim2; omega))
  have hl1 : ¬ ((bs.length : Int) > 2147483647) := by omega
  have hl2 : ¬ ((bs.length : Int) > 1000) := by omega
  clear hB hv hI hl hF hlo hd hver hwr hn0 hn1
  generalize bs.length = nb at *
  go_enter Tryd.func6, Tryd.ntmps6
  go_wp2_with (first
    | (go_at_call 18; refine (max_calls _).mono ?_; rintro e2 w2 ⟨rfl, hO2⟩; have HO2 := Lib.hid hO2; clear hO2)
    | (go_at_call 11; refine (cV.out _).mono ?_; rintro e4 w4 ⟨rfl, hw4⟩; subst w4)
    | (go_at_call 19; refine (cX.out w2 HO2.out).mono ?_; rintro e4 w4 ⟨A4, n4, c4, rfl, hO4, ho4⟩; have HC4 := Lib.hid ho4.oc; have HO4 := Lib.hid (HO2.out.trans hO4); clear hO4 ho4 cX)
    | (go_at_call 19; refine (cO.out w4 _ _ _ HC4.out HO4.out).mono ?_; rintro e5 w5 ⟨A5, n5, c5, rfl, hO5, ho5⟩; have HC5 := Lib.hid ho5.oc; have HC5b := Lib.hid ((HC4.out.keep (hO5.kept0 (Nat.le_refl _))).more hO5.size); have HO5 := Lib.hid (HO4.out.trans hO5); clear hO5 ho5 cO)
    | (go_at_call 13; refine (cS.out w5 _ _ HC5b.out HC5.out).mono ?_; rintro e6 w6 ⟨rfl, hO6⟩; have HO6 := Lib.hid (HO5.out.trans hO6); clear hO6 cS)
    | fail)
  go_ret
  exact ⟨rfl, HO6.out⟩

set_option maxRecDepth 100000 in
set_option maxHeartbeats 400000 in
theorem walk_bad {w : World} {B : Nat} {n ver : Int} {A : Option Addr} {c : Nat} {bs : List UInt8} (hB : B ≤ w.heap.size) (hv : Oc w B (.slice A bs.length c) bs) (hI : EI w) (hl : bs.length ≤ 1000) (hver : n % (mx + 1) = ver) (hn0 : 0 ≤ n) (hn1 : n < 256)
    (hd : ∀ {w : World} {vs : Value} {B : Nat}, B ≤ w.heap.size → Oc w B vs bs → EI w → Calls Tryd.prog 19 #[.int .i64 ver, vs] w (CutP w)) :
    Calls Tryd.prog 6 #[.int .u8 n, .slice A bs.length c] w fun e w' => e = .returned (.bool true) ∧ Only (fun _ => False) w w' := by
  have cV := Lib.hid (fun (w1 : World) => version_c w1 n mx hn0 hn1 (by decide) (by decide))
  rw [hver] at cV
  have cX := Lib.hid (fun (w1 : World) (O : Only (fun _ => False) w w1) => hd (Nat.le_trans hB O.size) (hv.keep (O.kept0 hB)) (ei_up hI O))
  have hl1 : ¬ ((bs.length : Int) > 2147483647) := by omega
  have hl2 : ¬ ((bs.length : Int) > 1000) := by omega
  clear hB hv hI hl hd hver hn0 hn1
  generalize bs.length = nb at *
  go_enter Tryd.func6, Tryd.ntmps6
  go_wp2_with (first
    | (go_at_call 18; refine (max_calls _).mono ?_; rintro e2 w2 ⟨rfl, hO2⟩; have HO2 := Lib.hid hO2; clear hO2)
    | (go_at_call 11; refine (cV.out _).mono ?_; rintro e4 w4 ⟨rfl, hw4⟩; subst w4)
    | (go_at_call 19; refine (cX.out w2 HO2.out).mono ?_; rintro e4 w4 ⟨rfl, hO4⟩; have HO4 := Lib.hid (HO2.out.trans hO4); clear hO4 cX)
    | fail)
  go_ret
  exact ⟨rfl, HO4.out⟩

set_option maxRecDepth 100000 in
theorem walk_long {w : World} {n : Int} {A : Option Addr} {m c : Nat} (h : 1000 < m) : Calls Tryd.prog 6 #[.int .u8 n, .slice A m c] w fun e w' => e = .returned (.bool true) ∧ Only (fun _ => False) w w' := by
  have hl2 : ((m : Int) > 1000) := by omega
  by_cases hl1 : ((m : Int) > 2147483647)
  · go_enter Tryd.func6, Tryd.ntmps6
    go_wp2_with fail
    go_ret
    exact ⟨rfl, Only.refl _ _⟩
  · go_enter Tryd.func6, Tryd.ntmps6
    go_wp2_with (first
      | (go_at_call 18; refine (max_calls _).mono ?_; rintro e2 w2 ⟨rfl, hO2⟩; have HO2 := Lib.hid hO2; clear hO2)
      | fail)
    go_ret
    exact ⟨rfl, HO2.out⟩

theorem law {w : World} {B : Nat} {n : Int} {A : Option Addr} {c : Nat} {bs : List UInt8} (hB : B ≤ w.heap.size) (hv : Oc w B (.slice A bs.length c) bs) (hI : EI w) (hn0 : 0 ≤ n) (hn1 : n < 256) : Calls Tryd.prog 6 #[.int .u8 n, .slice A bs.length c] w fun e w' => e = .returned (.bool true) ∧ Only (fun _ => False) w w' := by
  by_cases h : 1000 < bs.length
  · exact walk_long h
  · have hl : bs.length ≤ 1000 := by omega
    have hwr : IntKind.i16.wrap (n % (mx + 1)) = n % (mx + 1) := by
      have hv0 : 0 ≤ n % (mx + 1) := Int.emod_nonneg _ (by decide)
      have hv1 : n % (mx + 1) ≤ mx := by have := Int.emod_lt_of_pos n (show (0 : Int) < mx + 1 by decide); omega
      unfold IntKind.wrap; unfold mx at *; simp [IntKind.signed, IntKind.bits] <;> omega
    have hv0 : 0 ≤ n % (mx + 1) := Int.emod_nonneg _ (by decide)
    have hv1 : n % (mx + 1) ≤ mx := by have := Int.emod_lt_of_pos n (show (0 : Int) < mx + 1 by decide); omega
    rcases any2 hwr (okm _ hv0 hv1) (by omega : bs.length ≤ 32767) with ⟨out, h1, h2, h5⟩ | h5
    · exact walk_good hB hv hI hl rfl hwr hn0 hn1 h2 h1 h5
    · exact walk_bad hB hv hI hl rfl hn0 hn1 h5

/-! ### the row and the card -/
open Go.ChangeShapes Go.WideShapes Go.ChangeAt
set_option maxRecDepth 100000 in
theorem contract (H : Type) (enc : TypeId × Value → H) (W : World) (base : Nat) (args : Array Value) (ds gs : List (DataW H)) (before : List MemPlace)
    (hval : ∀ (j : Nat) t v, Tryd.f6.params[j]? = some t → args[j]? = some v → Value.okWide Tryd.prog W .any base t v)
    (hW : DataW.Whole enc Tryd.prog Tryd.f6.params.toList Rows.fnAnyAlterShareGroupOffsetsResponseSpec.vars false W args.toList ds gs before) (hL : laidMetH Tryd.prog Rows.fnAnyAlterShareGroupOffsetsResponseRow.laid W) :
    Calls Tryd.prog 6 args W fun e W' => ∃ v, e = .returned v ∧ Rows.fnAnyAlterShareGroupOffsetsResponseSpec.post enc Tryd.prog Tryd.f6 false true false false W args v W' := by
  have hW' := hW
  obtain ⟨p, q, hA0, hV, rfl, hfz, hnd⟩ := hW
  have hA : DataW.TrodAll enc Tryd.prog W 0 (fun _ => true) true Tryd.f6.params.toList args.toList ds p := hA0
  rw [Tryd.params6] at hA hval
  obtain ⟨v0, vs0, d0, ds0, p0, q0, hargs, rfl, rfl, h0, r0⟩ := trodAll_cons hA
  obtain ⟨v1, vs1, d1, ds1, p1, q1, rfl, rfl, rfl, h1, r1⟩ := trodAll_cons r0
  obtain ⟨rfl, rfl, rfl⟩ := trodAll_nil r1
  obtain rfl : args = #[v0, v1] := by cases args; simp_all
  obtain ⟨n, rfl, _, _, wn⟩ := open_int Tryd.underlying5 (hval 0 5 v0 rfl rfl) h0
  have hn : 0 ≤ n ∧ n ≤ 255 := by simpa [Lit.wf, IntKind.min, IntKind.max, IntKind.signed, IntKind.bits] using wn
  obtain ⟨bs, A, c, rfl, hv⟩ := oc_open Tryd.underlying22 Tryd.underlying5 cells8 (hval 1 22 v1 rfl rfl) h1
  refine (law (Nat.le_refl _) hv (ei_laid hL) hn.1 (by omega)).mono fun e W' ⟨he, hO⟩ => ?_
  subst he
  exact ⟨_, rfl, law_post laidOut hW' rfl (by
    rw [Tryd.params6]
    intro t ht
    have e : t = 5 ∨ t = 22 := (by simpa using ht)
    rcases e with rfl | rfl <;> exact ⟨by kernel_rfl, of_decide_eq_true (by kernel_rfl)⟩) rfl rfl rfl (by kernel_rfl) Tryd.underlying4 hO⟩
theorem laid_met (os : Os) : laidMet Tryd.prog Rows.fnAnyAlterShareGroupOffsetsResponseRow.laid ((laidWorld os).forCall (fun _ _ => 0) ⟨#[], #[.int .u8 0, .slice none 0 0], []⟩).memory :=
  laidMet_of_run' 8 (by kernel_rfl) (by kernel_rfl)
theorem reads (os : Os) {H : Type} (enc : TypeId × Value → H) : ∃ places, DataW.whole enc Tryd.prog ((laidWorld os).forCall (fun _ _ => 0) ⟨#[], #[.int .u8 0, .slice none 0 0], []⟩).memory Tryd.f6.params.toList Rows.fnAnyAlterShareGroupOffsetsResponseSpec.vars false (#[.int .u8 0, .slice none 0 0] : Array Value).toList 8 = some ([.lit (.int .u8 0), .nil], [], places) :=
  ⟨[], by kernel_rfl⟩

set_option maxRecDepth 100000 in
theorem lifted (os : Os) (started : os.Started) (H : Type) (enc : TypeId × Value → H) (F : Stop.Interp) :
    ReturnsInHanded {} Tryd.checked os 6 .any ((OpenSpec.ofChange Rows.fnAnyAlterShareGroupOffsetsResponseSpec).preRow enc Tryd.prog Tryd.f6 Rows.fnAnyAlterShareGroupOffsetsResponseRow.domain false Rows.fnAnyAlterShareGroupOffsetsResponseRow.laid) (((OpenSpec.ofChange Rows.fnAnyAlterShareGroupOffsetsResponseSpec).at F).post enc Tryd.prog Tryd.f6 false true false false) := by
  obtain ⟨places, hx⟩ := reads os enc
  refine returnsInHanded_of_row (C := Tryd.checked) (s := OpenSpec.ofChange Rows.fnAnyAlterShareGroupOffsetsResponseSpec) own started (by kernel_rfl) Tryd.func6
    (witness_row_at (enc := enc) (C := Tryd.checked) false (laidWorld os) #[.int .u8 0, .slice none 0 0] rfl (by kernel_rfl) (by kernel_rfl) (by kernel_rfl)
      (OpenSpec.preRow_of_cond 8 hx (by kernel_rfl) (fun k hk => by cases hk) (by kernel_rfl) (laid_met os))) ?_
  intro W base args ds gs before hval hW _ _ _ hL _ _
  exact contract H enc W base args ds gs before hval hW hL

set_option maxRecDepth 100000 in
theorem closed : joinedFacts Tryd.pinned.checked.prog 6 Tryd.f6 (OpenSpec.ofChange Rows.fnAnyAlterShareGroupOffsetsResponseSpec).bare Rows.fnAnyAlterShareGroupOffsetsResponseRow = true := by kernel_rfl
set_option maxRecDepth 100000 in
theorem named : Tryd.pinned.checked.prog.funcNamed Rows.fnAnyAlterShareGroupOffsetsResponseRow.func = some 6 := by kernel_rfl
set_option maxRecDepth 100000 in
theorem said : Rows.FnAnyAlterShareGroupOffsetsResponseSaid :=
  OpenClaim.holds_of_cond 6 Tryd.f6 rfl rfl rfl rfl rfl rfl rfl ⟨rfl, rfl, rfl, rfl, rfl⟩ rfl rfl rfl rfl rfl named Tryd.func6 closed
    (of_decide_eq_true (by kernel_rfl)) (by unfold Func.isWrapper; first | (rw [if_pos (by decide +kernel)]; kernel_rfl) | (rw [if_neg (by decide +kernel)]; exact ⟨rfl, rfl⟩))
    (fun os started H enc _ F => by rw [OpenClaim.pre_eq_preRow]; exact lifted os started H enc F)

theorem plain (f : FuncId) (fn : Func) (hf : Tryd.pinned.checked.prog.funcNamed "pub-kmsg/laws.FnAnyAlterShareGroupOffsetsResponse" = some f) (hfn : Tryd.pinned.checked.prog.funcs[f]? = some fn) :
    false = Tryd.pinned.checked.prog.looks [] ∧ ∀ (j : Nat) t, fn.params[j]? = some t → Tryd.pinned.checked.prog.wantsStandIn t = false := by
  obtain rfl : f = 6 := Option.some.inj ((show Tryd.prog.funcNamed "pub-kmsg/laws.FnAnyAlterShareGroupOffsetsResponse" = some 6 by kernel_rfl).symm.trans hf) |>.symm
  obtain rfl : fn = Tryd.f6 := (Option.some.inj (Tryd.func6.symm.trans hfn)).symm
  refine ⟨by kernel_rfl, fun j t ht => ?_⟩
  rw [Tryd.params6] at ht
  have ht' := Array.mem_of_getElem? ht
  have e : t = 5 ∨ t = 22 := (by simpa using ht')
  rcases e with rfl | rfl
  all_goals exact (show Tryd.prog.wantsStandIn _ = false by kernel_rfl)

/-- The card. -/
theorem card : Rows.FnAnyAlterShareGroupOffsetsResponseCardSaid :=
  Claim7.holds_tied_plain_at .later [] _ _ _ _ said (fun _ h => by cases h) (by kernel_rfl) (fun _ h => by cases h) fnAnyAlterShareGroupOffsetsResponse_row_tie rfl ⟨rfl, rfl⟩ (by kernel_rfl) rfl plain (by kernel_rfl)
end Go.Proofs.YtjphodjbflgbaaaDoor.Kf.LFnAnyAlterShareGroupOffsetsResponse
