/- Whatever octets (at most 1000) are read as a GroupMetadataKey are written as octets that are read again and written as the same; the law FnAnyGroupMetadataKey returns true at every input and lets its argument be. Condition: the errors variable reads as its initialiser lays it (tied to the text of the program). -/
import Derived.Test.YtfimokbgggimmaaDoorMGroupMetadataKey
import Derived.Test.YtfimokbgggimmaaDoorYGroupMetadataKey
import Derived.Test.YtfimokbgggimmaaDoorRowA
import Derived.Test.YtfimokbgggimmaaDoorCards
import Derived.Test.YtfimokbgggimmaaDoorTie
namespace Go.Proofs.YtfimokbgggimmaaDoor.Kf.LAnyGroupMetadataKey
set_option linter.unusedVariables false
set_option linter.unusedSimpArgs false
open Go Go.RowKit MGroupMetadataKey

theorem okm (ver : Int) : (r.m ver (flexOf none ver)).w.ok = true := rfl
theorem sub0 : W.sub (fieldsW YGroupMetadataKey.fs 0 (fxOf YGroupMetadataKey.fx 0)) (r.m 0 (flexOf none 0)).w = true := by decide
theorem part0 : PartC (fxOf YGroupMetadataKey.fx 0) YGroupMetadataKey.fs := part_all YGroupMetadataKey.fs rfl rfl (by decide)
def dflt : List UInt8 := partB YGroupMetadataKey.fs 0 (fxOf YGroupMetadataKey.fx 0) tr0
theorem dflt_full : Full (r.m 0 (flexOf none 0)).w dflt := full_sub TrOk.zero sub0 (okm 0)
theorem dflt_len : dflt.length + 18 ≤ lim2 := by decide

set_option maxRecDepth 100000 in
set_option maxHeartbeats 400000 in
theorem walk_good {w : World} {B : Nat} {A : Option Addr} {c : Nat} {bs : List UInt8} {ver : Int} {out : List UInt8} (hB : B ≤ w.heap.size) (hv : Oc w B (.slice A bs.length c) bs) (hI : EI w) (hl : bs.length ≤ 1000)
    (h0 : Prim.i16.lo ≤ ver) (h1 : ver < Prim.i16.hi) (hF : Full (r.m ver (flexOf none ver)).w out) (hlo : out.length ≤ bs.length)
    (hd : ∀ {w : World} {vs : Value} {B : Nat}, B ≤ w.heap.size → Oc w B vs bs → EI w → Calls Tryd.prog 12 #[vs] w (FullP 5 (beEnc 2 ver ++ out) w)) :
    Calls Tryd.prog 4 #[.slice A bs.length c] w fun e w' => e = .returned (.bool true) ∧ Only (fun _ => False) w w' := by
  have cK := Lib.hid (fun (w1 : World) (A1 : Option Addr) (n1 c1 : Nat) (hF : FldsC w1 w1.heap.size YGroupMetadataKey.fs (.slice A1 n1 c1)) => (sp_kept w1 w1.heap.size YGroupMetadataKey.fs (.slice A1 n1 c1) YGroupMetadataKey.fx 0 tr0 _ (by decide) (by decide) (Nat.le_refl _) hF (TrC.zero _ _) part0 dflt_len).mono (R' := OcP (beEnc 2 0 ++ dflt) w1) fun e w' h => ocP_of h)
  have cD := Lib.hid (fun (w1 : World) (A1 : Option Addr) (n1 c1 : Nat) (h : Oc w1 w1.heap.size (.slice A1 n1 c1) (beEnc 2 0 ++ dflt)) (O : Only (fun _ => False) w w1) => full (Nat.le_refl _) h (by decide) (by decide) dflt_full (by decide) (ei_up hI O))
  have cX := Lib.hid (fun (w1 : World) (O : Only (fun _ => False) w w1) => hd (Nat.le_trans hB O.size) (hv.keep (O.kept0 hB)) (ei_up hI O))
  have cO := Lib.hid (fun (w1 : World) (A1 : Option Addr) (n1 c1 : Nat) (h : Oc w1 w1.heap.size (.slice A1 n1 c1) (beEnc 2 ver ++ out)) (O : Only (fun _ => False) w w1) => full (Nat.le_refl _) h h0 h1 hF (by unfold lim; omega) (ei_up hI O))
  have cS := Lib.hid (fun (w1 : World) (v u : Value) (h : Oc w1 w1.heap.size v (beEnc 2 ver ++ out)) (k : Oc w1 w1.heap.size u (beEnc 2 ver ++ out)) => sp_same w1 w1.heap.size v u _ (Nat.le_refl _) h k (by simp [beEnc_length]; unfold lim2; omega))
  have hl1 : ¬ ((bs.length : Int) > 2147483647) := by omega
  have hl2 : ¬ ((bs.length : Int) > 1000) := by omega
  clear hB hv hI hl h0 h1 hF hlo hd
  generalize bs.length = nb at *
  go_enter Tryd.func4, Tryd.ntmps4
  go_wp2_with (first
    | (go_at_call 13; refine (YGroupMetadataKey.spec _).mono ?_; rintro e1 w1 ⟨A1, n1, c1, rfl, hF1, hO1⟩; have HF1 := Lib.hid hF1; have HO1 := Lib.hid hO1; clear hF1 hO1)
    | (go_at_call 8; refine (cK.out w1 A1 n1 c1 HF1.out).mono ?_; rintro e2 w2 ⟨A2, n2, c2, rfl, ho2, hO2⟩; have HC2 := Lib.hid ho2; have HO2 := Lib.hid (HO1.out.trans hO2); clear ho2 hO2 cK)
    | (go_at_call 12; refine (cD.out w2 _ _ _ HC2.out HO2.out).mono ?_; rintro e3 w3 ⟨A3, n3, c3, rfl, hO3, _⟩; have HO3 := Lib.hid (HO2.out.trans hO3); clear hO3 cD)
    | (go_at_call 12; refine (cX.out w3 HO3.out).mono ?_; rintro e4 w4 ⟨A4, n4, c4, rfl, hO4, ho4⟩; have HC4 := Lib.hid ho4.oc; have HO4 := Lib.hid (HO3.out.trans hO4); clear hO4 ho4 cX)
    | (go_at_call 12; refine (cO.out w4 _ _ _ HC4.out HO4.out).mono ?_; rintro e5 w5 ⟨A5, n5, c5, rfl, hO5, ho5⟩; have HC5 := Lib.hid ho5.oc; have HC5b := Lib.hid ((HC4.out.keep (hO5.kept0 (Nat.le_refl _))).more hO5.size); have HO5 := Lib.hid (HO4.out.trans hO5); clear hO5 ho5 cO)
    | (go_at_call 11; refine (cS.out w5 _ _ HC5b.out HC5.out).mono ?_; rintro e6 w6 ⟨rfl, hO6⟩; have HO6 := Lib.hid (HO5.out.trans hO6); clear hO6 cS)
    | fail)
  go_ret
  exact ⟨rfl, HO6.out⟩

set_option maxRecDepth 100000 in
set_option maxHeartbeats 400000 in
theorem walk_bad {w : World} {B : Nat} {A : Option Addr} {c : Nat} {bs : List UInt8} (hB : B ≤ w.heap.size) (hv : Oc w B (.slice A bs.length c) bs) (hI : EI w) (hl : bs.length ≤ 1000)
    (hd : ∀ {w : World} {vs : Value} {B : Nat}, B ≤ w.heap.size → Oc w B vs bs → EI w → Calls Tryd.prog 12 #[vs] w (CutP w)) :
    Calls Tryd.prog 4 #[.slice A bs.length c] w fun e w' => e = .returned (.bool true) ∧ Only (fun _ => False) w w' := by
  have cK := Lib.hid (fun (w1 : World) (A1 : Option Addr) (n1 c1 : Nat) (hF : FldsC w1 w1.heap.size YGroupMetadataKey.fs (.slice A1 n1 c1)) => (sp_kept w1 w1.heap.size YGroupMetadataKey.fs (.slice A1 n1 c1) YGroupMetadataKey.fx 0 tr0 _ (by decide) (by decide) (Nat.le_refl _) hF (TrC.zero _ _) part0 dflt_len).mono (R' := OcP (beEnc 2 0 ++ dflt) w1) fun e w' h => ocP_of h)
  have cD := Lib.hid (fun (w1 : World) (A1 : Option Addr) (n1 c1 : Nat) (h : Oc w1 w1.heap.size (.slice A1 n1 c1) (beEnc 2 0 ++ dflt)) (O : Only (fun _ => False) w w1) => full (Nat.le_refl _) h (by decide) (by decide) dflt_full (by decide) (ei_up hI O))
  have cX := Lib.hid (fun (w1 : World) (O : Only (fun _ => False) w w1) => hd (Nat.le_trans hB O.size) (hv.keep (O.kept0 hB)) (ei_up hI O))
  have hl1 : ¬ ((bs.length : Int) > 2147483647) := by omega
  have hl2 : ¬ ((bs.length : Int) > 1000) := by omega
  clear hB hv hI hl hd
  generalize bs.length = nb at *
  go_enter Tryd.func4, Tryd.ntmps4
  go_wp2_with (first
    | (go_at_call 13; refine (YGroupMetadataKey.spec _).mono ?_; rintro e1 w1 ⟨A1, n1, c1, rfl, hF1, hO1⟩; have HF1 := Lib.hid hF1; have HO1 := Lib.hid hO1; clear hF1 hO1)
    | (go_at_call 8; refine (cK.out w1 A1 n1 c1 HF1.out).mono ?_; rintro e2 w2 ⟨A2, n2, c2, rfl, ho2, hO2⟩; have HC2 := Lib.hid ho2; have HO2 := Lib.hid (HO1.out.trans hO2); clear ho2 hO2 cK)
    | (go_at_call 12; refine (cD.out w2 _ _ _ HC2.out HO2.out).mono ?_; rintro e3 w3 ⟨A3, n3, c3, rfl, hO3, _⟩; have HO3 := Lib.hid (HO2.out.trans hO3); clear hO3 cD)
    | (go_at_call 12; refine (cX.out w3 HO3.out).mono ?_; rintro e4 w4 ⟨rfl, hO4⟩; have HO4 := Lib.hid (HO3.out.trans hO4); clear hO4 cX)
    | fail)
  go_ret
  exact ⟨rfl, HO4.out⟩

set_option maxRecDepth 100000 in
theorem walk_long {w : World} {A : Option Addr} {n c : Nat} (h : 1000 < n) : Calls Tryd.prog 4 #[.slice A n c] w fun e w' => e = .returned (.bool true) ∧ Only (fun _ => False) w w' := by
  have hl2 : ((n : Int) > 1000) := by omega
  by_cases hl1 : ((n : Int) > 2147483647)
  · go_enter Tryd.func4, Tryd.ntmps4
    go_wp2_with fail
    go_ret
    exact ⟨rfl, Only.refl _ _⟩
  · go_enter Tryd.func4, Tryd.ntmps4
    go_wp2_with fail
    go_ret
    exact ⟨rfl, Only.refl _ _⟩

theorem law {w : World} {B : Nat} {A : Option Addr} {c : Nat} {bs : List UInt8} (hB : B ≤ w.heap.size) (hv : Oc w B (.slice A bs.length c) bs) (hI : EI w) : Calls Tryd.prog 4 #[.slice A bs.length c] w fun e w' => e = .returned (.bool true) ∧ Only (fun _ => False) w w' := by
  by_cases h : 1000 < bs.length
  · exact walk_long h
  · have hl : bs.length ≤ 1000 := by omega
    rcases any2 okm (by omega : bs.length ≤ 32767) with ⟨ver, out, h1, h2, h3, h4, h5⟩ | h5
    · exact walk_good hB hv hI hl h2 h3 h4 h1 h5
    · exact walk_bad hB hv hI hl h5

/-! ### the row and the card -/
open Go.ChangeShapes Go.WideShapes Go.ChangeAt
theorem own : ownKnob Tryd.prog.godebug = none := by kernel_rfl
theorem laidOut : laidOutB Tryd.prog = true := by kernel_rfl
theorem gErr : Tryd.prog.globalNamed "pub-kmsg/pub/kmsg/inner/kbin.ErrNotEnoughData" = some 1 := by kernel_rfl
theorem gErrT : (Tryd.prog.globals[1]?).map (·.type) = some 62 := by kernel_rfl
theorem cells5 : Tryd.prog.cellsOf 5 = 1 := by kernel_rfl
set_option maxRecDepth 100000 in
theorem ei_laid {W : World} (h : laidMetH Tryd.prog Rows.fnAnyGroupMetadataKeyRow.laid W) : EI W := by
  obtain ⟨u, v, hc⟩ := err_laid gErr gErrT Tryd.underlying62 h
  exact ⟨⟨u, v, hc⟩, World.block_lt_of_cell? _ _ hc⟩
set_option maxRecDepth 100000 in
theorem contract (H : Type) (enc : TypeId × Value → H) (W : World) (base : Nat) (args : Array Value) (ds gs : List (DataW H)) (before : List MemPlace)
    (hval : ∀ (j : Nat) t v, Tryd.f4.params[j]? = some t → args[j]? = some v → Value.okWide Tryd.prog W .any base t v)
    (hW : DataW.Whole enc Tryd.prog Tryd.f4.params.toList Rows.fnAnyGroupMetadataKeySpec.vars false W args.toList ds gs before) (hL : laidMetH Tryd.prog Rows.fnAnyGroupMetadataKeyRow.laid W) :
    Calls Tryd.prog 4 args W fun e W' => ∃ v, e = .returned v ∧ Rows.fnAnyGroupMetadataKeySpec.post enc Tryd.prog Tryd.f4 false true false false W args v W' := by
  have hW' := hW
  obtain ⟨p, q, hA0, hV, rfl, hfz, hnd⟩ := hW
  have hA : DataW.TrodAll enc Tryd.prog W 0 (fun _ => true) true Tryd.f4.params.toList args.toList ds p := hA0
  rw [Tryd.params4] at hA hval
  obtain ⟨v0, vs0, d0, ds0, p0, q0, hargs, rfl, rfl, h0, r0⟩ := trodAll_cons hA
  obtain ⟨rfl, rfl, rfl⟩ := trodAll_nil r0
  obtain rfl : args = #[v0] := by cases args; simp_all
  obtain ⟨bs, A, c, rfl, hv⟩ := oc_open Tryd.underlying22 Tryd.underlying5 cells5 (hval 0 22 v0 rfl rfl) h0
  refine (law (Nat.le_refl _) hv (ei_laid hL)).mono fun e W' ⟨he, hO⟩ => ?_
  subst he
  exact ⟨_, rfl, law_post laidOut hW' rfl (by rw [Tryd.params4]; intro t ht; (have e : t = 22 := (by simpa using ht)); subst e; exact ⟨by kernel_rfl, of_decide_eq_true (by kernel_rfl)⟩) rfl rfl rfl (by kernel_rfl) Tryd.underlying4 hO⟩

noncomputable def low : Nat := (World.holding Tryd.prog default ⟨#[], #[], []⟩).heap.size
/-- A world for the witness: the settled one, the errors' variable holding what its initialiser lays. -/
noncomputable def laidWorld (os : Os) : World :=
  let w0 := World.holding Tryd.prog os ⟨#[.cells #[.string { data := #[114, 101, 115, 112, 111, 110, 115, 101, 32, 100, 105, 100, 32, 110, 111, 116, 32, 99, 111, 110, 116, 97, 105, 110, 32, 101, 110, 111, 117, 103, 104, 32, 100, 97, 116, 97, 32, 116, 111, 32, 98, 101, 32, 118, 97, 108, 105, 100] }] 146], #[], []⟩
  { w0 with heap := w0.heap.modify 1 fun
      | .cells _ t frozen => .cells #[.iface 131 (.pointer (some ⟨low, 0, none⟩))] t frozen
      | o => o }
theorem laid_met (os : Os) : laidMet Tryd.prog Rows.fnAnyGroupMetadataKeyRow.laid ((laidWorld os).forCall (fun _ _ => 0) ⟨#[], #[.slice none 0 0], []⟩).memory :=
  laidMet_of_run' 8 (by kernel_rfl) (by kernel_rfl)
theorem reads (os : Os) {H : Type} (enc : TypeId × Value → H) : ∃ places, DataW.whole enc Tryd.prog ((laidWorld os).forCall (fun _ _ => 0) ⟨#[], #[.slice none 0 0], []⟩).memory Tryd.f4.params.toList Rows.fnAnyGroupMetadataKeySpec.vars false #[Value.slice none 0 0].toList 8 = some ([.nil], [], places) :=
  ⟨[], by kernel_rfl⟩

set_option maxRecDepth 100000 in
theorem lifted (os : Os) (started : os.Started) (H : Type) (enc : TypeId × Value → H) (F : Stop.Interp) :
    ReturnsInHanded {} Tryd.checked os 4 .any ((OpenSpec.ofChange Rows.fnAnyGroupMetadataKeySpec).preRow enc Tryd.prog Tryd.f4 Rows.fnAnyGroupMetadataKeyRow.domain false Rows.fnAnyGroupMetadataKeyRow.laid) (((OpenSpec.ofChange Rows.fnAnyGroupMetadataKeySpec).at F).post enc Tryd.prog Tryd.f4 false true false false) := by
  obtain ⟨places, hx⟩ := reads os enc
  refine returnsInHanded_of_row (C := Tryd.checked) (s := OpenSpec.ofChange Rows.fnAnyGroupMetadataKeySpec) own started (by kernel_rfl) Tryd.func4
    (witness_row_at (enc := enc) (C := Tryd.checked) false (laidWorld os) #[.slice none 0 0] rfl (by kernel_rfl) (by kernel_rfl) (by kernel_rfl)
      (OpenSpec.preRow_of_cond 8 hx (by kernel_rfl) (fun k hk => by cases hk) (by kernel_rfl) (laid_met os))) ?_
  intro W base args ds gs before hval hW _ _ _ hL _ _
  exact contract H enc W base args ds gs before hval hW hL

set_option maxRecDepth 100000 in
theorem said : Rows.FnAnyGroupMetadataKeySaid :=
  OpenClaim.holds_of_cond 4 Tryd.f4 rfl rfl rfl rfl rfl rfl rfl ⟨rfl, rfl, rfl, rfl, rfl⟩ rfl rfl rfl rfl rfl (by kernel_rfl) Tryd.func4 (by kernel_rfl)
    (of_decide_eq_true (by kernel_rfl)) (by unfold Func.isWrapper; first | (rw [if_pos (by decide +kernel)]; kernel_rfl) | (rw [if_neg (by decide +kernel)]; exact ⟨rfl, rfl⟩))
    (fun os started H enc _ F => by rw [OpenClaim.pre_eq_preRow]; exact lifted os started H enc F)

theorem plain (f : FuncId) (fn : Func) (hf : Tryd.pinned.checked.prog.funcNamed "pub-kmsg/laws.FnAnyGroupMetadataKey" = some f) (hfn : Tryd.pinned.checked.prog.funcs[f]? = some fn) :
    false = Tryd.pinned.checked.prog.looks [] ∧ ∀ (j : Nat) t, fn.params[j]? = some t → Tryd.pinned.checked.prog.wantsStandIn t = false := by
  obtain rfl : f = 4 := Option.some.inj ((show Tryd.prog.funcNamed "pub-kmsg/laws.FnAnyGroupMetadataKey" = some 4 by kernel_rfl).symm.trans hf) |>.symm
  obtain rfl : fn = Tryd.f4 := (Option.some.inj (Tryd.func4.symm.trans hfn)).symm
  refine ⟨by kernel_rfl, fun j t ht => ?_⟩
  rw [Tryd.params4] at ht
  have ht' := Array.mem_of_getElem? ht
  obtain rfl : t = 22 := by simpa using ht'
  exact (show Tryd.prog.wantsStandIn 22 = false by kernel_rfl)

/-- The card. -/
theorem card : Rows.FnAnyGroupMetadataKeyCardSaid :=
  Claim7.holds_tied_plain_at .later [] _ _ _ _ said (fun _ h => by cases h) (by kernel_rfl) (fun _ h => by cases h) fnAnyGroupMetadataKey_row_tie rfl ⟨rfl, rfl⟩ (by kernel_rfl) rfl plain (by kernel_rfl)
end Go.Proofs.YtfimokbgggimmaaDoor.Kf.LAnyGroupMetadataKey
