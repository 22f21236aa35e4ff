/- A batch of records that the reference has written whole is read back as it was, and one that is cut anywhere ahead of its end is refused: the law FnTellBatch returns true at every input and lets its arguments be. Condition: the errors' variable reads as its initialiser lays it (tied to the program's text). -/
import Derived.Test.YtcanhgcceagplaaDoorTbI
import Derived.Test.YtcanhgcceagplaaDoorTbH
import Derived.Test.YtcanhgcceagplaaDoorRowA
import Derived.Test.YtcanhgcceagplaaDoorRows
import Derived.Test.YtcanhgcceagplaaDoorCards
import Derived.Test.YtcanhgcceagplaaDoorTie
namespace Go.Proofs.YtcanhgcceagplaaDoor.Kf.LFnTellBatch
set_option linter.unusedVariables false
set_option linter.unusedSimpArgs false
open Go Go.RowKit Go.ChangeShapes Go.WideShapes Go.ChangeAt

set_option maxRecDepth 100000
theorem own : ownKnob Tryd.prog.godebug = none := by kernel_rfl
theorem laidOut : laidOutB Tryd.prog = true := by kernel_rfl
theorem gErr : Tryd.prog.globalNamed "pub-kmsg/pub/kmsg/inner/kbin.ErrNotEnoughData" = some 1 := by kernel_rfl
theorem gErrT : (Tryd.prog.globals[1]?).map (·.type) = some 52 := by kernel_rfl
theorem ei_laid {W : World} {rest : List (String × DataW Unit)} (h : laidMet Tryd.prog (("pub-kmsg/pub/kmsg/inner/kbin.ErrNotEnoughData", Rows.laid_pub_kmsg_pub_kmsg_inner_kbin_ErrNotEnoughData) :: rest) W) : ErrI W := err_laid gErr gErrT Tryd.underlying52 h
noncomputable def low : Nat := (World.holding Tryd.prog default ⟨#[], #[], []⟩).heap.size
/-- A world for the witness: the settled one, the errors' variable holding what its initialiser lays. -/
noncomputable def laidWorld (os : Os) : World :=
  let w0 := World.holding Tryd.prog os ⟨#[.cells #[.string { data := #[114, 101, 115, 112, 111, 110, 115, 101, 32, 100, 105, 100, 32, 110, 111, 116, 32, 99, 111, 110, 116, 97, 105, 110, 32, 101, 110, 111, 117, 103, 104, 32, 100, 97, 116, 97, 32, 116, 111, 32, 98, 101, 32, 118, 97, 108, 105, 100] }] 86], #[], []⟩
  { w0 with heap := w0.heap.modify 1 fun
      | .cells _ t frozen => .cells #[.iface 84 (.pointer (some ⟨low, 0, none⟩))] t frozen
      | o => o }

/-! ### the row and the card -/
open Go.ChangeShapes Go.WideShapes Go.ChangeAt
set_option maxRecDepth 100000 in
theorem contract (H : Type) (enc : TypeId × Value → H) (W : World) (base : Nat) (args : Array Value) (ds gs : List (DataW H)) (before : List MemPlace)
    (hval : ∀ (j : Nat) t v, Tryd.f3.params[j]? = some t → args[j]? = some v → Value.okWide Tryd.prog W .any base t v)
    (hW : DataW.Whole enc Tryd.prog Tryd.f3.params.toList Rows.fnTellBatchSpec.vars false W args.toList ds gs before) (hL : laidMetH Tryd.prog Rows.fnTellBatchRow.laid W) :
    Calls Tryd.prog 3 args W fun e W' => ∃ v, e = .returned v ∧ Rows.fnTellBatchSpec.post enc Tryd.prog Tryd.f3 false true false false W args v W' := by
  have hW' := hW
  obtain ⟨p, q, hA0, hV, rfl, hfz, hnd⟩ := hW
  have hA : DataW.TrodAll enc Tryd.prog W 0 (fun _ => true) true Tryd.f3.params.toList args.toList ds p := hA0
  rw [Tryd.params3] at hA hval
  obtain ⟨v0, vs0, d0, ds0, p0, q0, hargs, rfl, rfl, h0, r0⟩ := trodAll_cons hA
  obtain ⟨v1, vs1, d1, ds1, p1, q1, rfl, rfl, rfl, h1, r1⟩ := trodAll_cons r0
  obtain ⟨rfl, rfl, rfl⟩ := trodAll_nil r1
  obtain rfl : args = #[v0, v1] := by cases args; simp_all
  obtain ⟨b, A, c, rfl, hok, hv⟩ := bt_open (hval 0 26 v0 rfl rfl) h0
  obtain ⟨n2, rfl, _, _, wn2⟩ := open_int Tryd.underlying27 (hval 1 27 v1 rfl rfl) h1
  have hn2 : 0 ≤ n2 ∧ n2 ≤ 65535 := by simpa [Lit.wf, IntKind.min, IntKind.max, IntKind.signed, IntKind.bits] using wn2
  refine (law hv hok (ei_laid hL) hn2.1 (by omega)).mono fun e W' ⟨he, hO⟩ => ?_
  subst he
  exact ⟨_, rfl, law_post laidOut hW' rfl (by
    rw [Tryd.params3]
    intro t ht
    have e : t = 26 ∨ t = 27 := (by simpa using ht)
    rcases e with rfl | rfl <;> exact ⟨by kernel_rfl, of_decide_eq_true (by kernel_rfl)⟩) rfl rfl rfl (by kernel_rfl) Tryd.underlying4 hO⟩
theorem laid_met (os : Os) : laidMet Tryd.prog Rows.fnTellBatchRow.laid ((laidWorld os).forCall (fun _ _ => 0) ⟨#[], #[.agg #[.int .i64 0, .int .i32 0, .int .i32 0, .int .i8 0, .int .i32 0, .int .i16 0, .int .i32 0, .int .i64 0, .int .i64 0, .int .i64 0, .int .i16 0, .int .i32 0, .int .i32 0, .slice none 0 0], .int .u16 0], []⟩).memory :=
  laidMet_of_run' 8 (by kernel_rfl) (by kernel_rfl)
theorem reads (os : Os) {H : Type} (enc : TypeId × Value → H) : ∃ places, DataW.whole enc Tryd.prog ((laidWorld os).forCall (fun _ _ => 0) ⟨#[], #[.agg #[.int .i64 0, .int .i32 0, .int .i32 0, .int .i8 0, .int .i32 0, .int .i16 0, .int .i32 0, .int .i64 0, .int .i64 0, .int .i64 0, .int .i16 0, .int .i32 0, .int .i32 0, .slice none 0 0], .int .u16 0], []⟩).memory Tryd.f3.params.toList Rows.fnTellBatchSpec.vars false (#[.agg #[.int .i64 0, .int .i32 0, .int .i32 0, .int .i8 0, .int .i32 0, .int .i16 0, .int .i32 0, .int .i64 0, .int .i64 0, .int .i64 0, .int .i16 0, .int .i32 0, .int .i32 0, .slice none 0 0], .int .u16 0] : Array Value).toList 8 = some ([.agg [.lit (.int .i64 0), .lit (.int .i32 0), .lit (.int .i32 0), .lit (.int .i8 0), .lit (.int .i32 0), .lit (.int .i16 0), .lit (.int .i32 0), .lit (.int .i64 0), .lit (.int .i64 0), .lit (.int .i64 0), .lit (.int .i16 0), .lit (.int .i32 0), .lit (.int .i32 0), .nil], .lit (.int .u16 0)], [], places) :=
  ⟨[], by kernel_rfl⟩

set_option maxRecDepth 100000 in
theorem lifted (os : Os) (started : os.Started) (H : Type) (enc : TypeId × Value → H) (F : Stop.Interp) :
    ReturnsInHanded {} Tryd.checked os 3 .any ((OpenSpec.ofChange Rows.fnTellBatchSpec).preRow enc Tryd.prog Tryd.f3 Rows.fnTellBatchRow.domain false Rows.fnTellBatchRow.laid) (((OpenSpec.ofChange Rows.fnTellBatchSpec).at F).post enc Tryd.prog Tryd.f3 false true false false) := by
  obtain ⟨places, hx⟩ := reads os enc
  refine returnsInHanded_of_row (C := Tryd.checked) (s := OpenSpec.ofChange Rows.fnTellBatchSpec) own started (by kernel_rfl) Tryd.func3
    (witness_row_at (enc := enc) (C := Tryd.checked) false (laidWorld os) #[.agg #[.int .i64 0, .int .i32 0, .int .i32 0, .int .i8 0, .int .i32 0, .int .i16 0, .int .i32 0, .int .i64 0, .int .i64 0, .int .i64 0, .int .i16 0, .int .i32 0, .int .i32 0, .slice none 0 0], .int .u16 0] rfl (by kernel_rfl) (by kernel_rfl) (by kernel_rfl)
      (OpenSpec.preRow_of_cond 8 hx (by kernel_rfl) (fun k hk => by cases hk) (by kernel_rfl) (laid_met os))) ?_
  intro W base args ds gs before hval hW _ _ _ hL _ _
  exact contract H enc W base args ds gs before hval hW hL

set_option maxRecDepth 100000 in
theorem closed : joinedFacts Tryd.pinned.checked.prog 3 Tryd.f3 (OpenSpec.ofChange Rows.fnTellBatchSpec).bare Rows.fnTellBatchRow = true := by kernel_rfl
set_option maxRecDepth 100000 in
theorem named : Tryd.pinned.checked.prog.funcNamed Rows.fnTellBatchRow.func = some 3 := by kernel_rfl
set_option maxRecDepth 100000 in
theorem said : Rows.FnTellBatchSaid :=
  OpenClaim.holds_of_cond 3 Tryd.f3 rfl rfl rfl rfl rfl rfl rfl ⟨rfl, rfl, rfl, rfl, rfl⟩ rfl rfl rfl rfl rfl named Tryd.func3 closed
    (of_decide_eq_true (by kernel_rfl)) (by unfold Func.isWrapper; first | (rw [if_pos (by decide +kernel)]; kernel_rfl) | (rw [if_neg (by decide +kernel)]; exact ⟨rfl, rfl⟩))
    (fun os started H enc _ F => by rw [OpenClaim.pre_eq_preRow]; exact lifted os started H enc F)

theorem plain (f : FuncId) (fn : Func) (hf : Tryd.pinned.checked.prog.funcNamed "pub-kmsg/laws.FnTellBatch" = some f) (hfn : Tryd.pinned.checked.prog.funcs[f]? = some fn) :
    false = Tryd.pinned.checked.prog.looks [] ∧ ∀ (j : Nat) t, fn.params[j]? = some t → Tryd.pinned.checked.prog.wantsStandIn t = false := by
  obtain rfl : f = 3 := Option.some.inj ((show Tryd.prog.funcNamed "pub-kmsg/laws.FnTellBatch" = some 3 by kernel_rfl).symm.trans hf) |>.symm
  obtain rfl : fn = Tryd.f3 := (Option.some.inj (Tryd.func3.symm.trans hfn)).symm
  refine ⟨by kernel_rfl, fun j t ht => ?_⟩
  rw [Tryd.params3] at ht
  have ht' := Array.mem_of_getElem? ht
  have e : t = 26 ∨ t = 27 := (by simpa using ht')
  rcases e with rfl | rfl
  all_goals exact (show Tryd.prog.wantsStandIn _ = false by kernel_rfl)

/-- The card. -/
theorem card : Rows.FnTellBatchCardSaid :=
  Claim7.holds_tied_plain_at .later [] _ _ _ _ said (fun _ h => by cases h) (by kernel_rfl) (fun _ h => by cases h) fnTellBatch_row_tie rfl ⟨rfl, rfl⟩ (by kernel_rfl) rfl plain (by kernel_rfl)
end Go.Proofs.YtcanhgcceagplaaDoor.Kf.LFnTellBatch
