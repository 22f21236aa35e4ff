/- A value that the documentation names is written as its word and marshalled so, and both are read back as the value: the law FnConfigResourceTypeText returns true at every input and lets its arguments be. Condition: the five variables of Go's library that the row lists read as their initialisers lay them (tied to the program's text). -/
import Derived.Test.YthlfepgcjomhpaaDoorNsT
import Derived.Test.YthlfepgcjomhpaaDoorRowA
import Derived.Test.YthlfepgcjomhpaaDoorRows
import Derived.Test.YthlfepgcjomhpaaDoorCards
import Derived.Test.YthlfepgcjomhpaaDoorTie
import Derived.PinnedBridge
import Derived.LaidSub
import Derived.Lib.LaidCaseMet
import Derived.Lib.LaidU8
import Derived.Deep.DeepHandedRow
import Derived.ProofKit
import Derived.ChangeMaps5
import Derived.Deep.DeepWitnessRowRef
namespace Go.Proofs.YthlfepgcjomhpaaDoor.Kf.LFnConfigResourceTypeText
set_option linter.unusedVariables false
set_option linter.unusedSimpArgs false
open Go Go.RowKit Go.ChangeShapes Go.WideShapes Go.ChangeAt Go.Shelf

set_option maxRecDepth 100000
theorem own : ownKnob Tryd.prog.godebug = none := by kernel_rfl
theorem laidOut : laidOutB Tryd.prog = true := by kernel_rfl

theorem lv_swap {P : Program} {w : World} (x y : String × DataW Unit) : ∀ (l : List (String × DataW Unit)) (ps : List MemPlace), DataW.LaidVars P w (l ++ [x, y]) ps → ∃ ps', DataW.LaidVars P w (l ++ [y, x]) ps' ∧ ps'.Perm ps
  | [], ps, h => by
    obtain ⟨g, t, cs, fuel, p, q, h1, h2, h3, h4, ⟨g', t', cs', fuel', p', q', k1, k2, k3, k4, k5, rfl⟩, rfl⟩ := h
    have k5 : q' = [] := k5
    subst k5
    refine ⟨_, ⟨g', t', cs', fuel', p', _, k1, k2, k3, k4, ⟨g, t, cs, fuel, p, [], h1, h2, h3, h4, rfl, rfl⟩, rfl⟩, ?_⟩
    simp only [List.append_nil]
    exact List.perm_append_comm
  | z :: l, ps, h => by
    obtain ⟨g, t, cs, fuel, p, q, h1, h2, h3, h4, h5, rfl⟩ := h
    obtain ⟨q', h6, h7⟩ := lv_swap x y l q h5
    exact ⟨_, ⟨g, t, cs, fuel, p, q', h1, h2, h3, h4, h6, rfl⟩, h7.append_left _⟩
theorem laid_swap {P : Program} {w : World} {x y : String × DataW Unit} {l : List (String × DataW Unit)} (h : laidMet P (l ++ [x, y]) w) : laidMet P (l ++ [y, x]) w := by
  obtain ⟨ps, h1, h2, h3⟩ := h
  obtain ⟨ps', h4, h5⟩ := lv_swap x y l ps h1
  exact ⟨ps', h4, h5.nodup_iff.2 h2, fun b off hp => h3 b off (h5.mem_iff.1 hp)⟩

theorem gT : (Tryd.prog.globals[0]?).map (·.type) = some 64 := by kernel_rfl
theorem cells8 : Tryd.prog.cellsOf 5 = 1 := by kernel_rfl
theorem cells256 : Tryd.prog.cellsOf 64 = 256 := by kernel_rfl
theorem asc_laid {W : World} (h : laidMetH Tryd.prog Rows.fnConfigResourceTypeTextRow.laid W) : Asc W := by
  have h1 := laidMetH.filter (fun x => x.1 == "strings.asciiSpace") h
  have h2 : laidMet Tryd.prog (("strings.asciiSpace", Lib.tabData .u8 Lib.asciiSpaceTab) :: []) W := h1
  exact Lib.tabIs_of_head gSp_at gT Tryd.underlying64 Tryd.underlying5 cells8 cells256 h2

/-- The witness: the settled world with three blocks more, the five variables holding what their initialisers lay. -/
noncomputable def laidWorld (os : Os) : World :=
  let N := (World.settled Tryd.prog os).heap.size
  let w0 := World.holding Tryd.prog os ⟨#[.cells (Lib.whiteT.map fun (z : Nat) => Value.int .u16 (z : Int)).toArray (Tryd.lays163_ren.t 198), .cells #[.slice (some ⟨N, 0, none⟩) 7 7, .slice none 0 0, .int .i64 2] (Tryd.lays163_ren.t 196),
    .cells Lib.caseCells5 (Tryd.lays159_ren.t 208)], #[], []⟩
  let put (h : Array Obj) (g : Nat) (cs : Array Value) : Array Obj := h.modify g fun
    | .cells _ t frozen => .cells cs t frozen
    | o => o
  let h1 := put w0.heap (Tryd.lays163_ren.g 0) (Lib.asciiSpaceTab.map fun z => Value.int .u8 z).toArray
  let h2 := put h1 (Tryd.lays163_ren.g 3) (Lib.firstTab.map fun z => Value.int .u8 z).toArray
  let h3 := put h2 (Tryd.lays163_ren.g 4) ((List.range 16).flatMap fun i => [Value.int .u8 (Lib.accLo i), Value.int .u8 (Lib.accHi i)]).toArray
  let h4 := put h3 (Tryd.lays163_ren.g 6) #[.pointer (some ⟨N + 1, 0, none⟩)]
  let h5 := put h4 (Tryd.lays159_ren.g 13) #[.slice (some ⟨N + 2, 0, none⟩) 336 336]
  { w0 with heap := h5 }
theorem laid_ends (os : Os) (args : Array Value) : laidMet Tryd.prog ([("unicode/utf8.acceptRanges", Rows.laid_unicode_utf8_acceptRanges), ("unicode.White_Space", Rows.laid_unicode_White_Space), ("strings.asciiSpace", Rows.laid_strings_asciiSpace), ("unicode/utf8.first", Rows.laid_unicode_utf8_first)] ++ [("unicode.CaseRanges", Lib.caseData)]) ((laidWorld os).forCall (fun _ _ => 0) ⟨#[], args, []⟩).memory :=
  laidMet_with_case (ρ := Tryd.lays159_ren) { Tryd.lays159 with } Tryd.lays159.t206 ⟨by kernel_rfl, by kernel_rfl, by kernel_rfl, by kernel_rfl, by kernel_rfl, by kernel_rfl⟩
    (l := [("unicode/utf8.acceptRanges", Rows.laid_unicode_utf8_acceptRanges), ("unicode.White_Space", Rows.laid_unicode_White_Space), ("strings.asciiSpace", Rows.laid_strings_asciiSpace), ("unicode/utf8.first", Rows.laid_unicode_utf8_first)])
    10 (by kernel_rfl) (by kernel_rfl) (by kernel_rfl) ((World.settled Tryd.prog default).heap.size + 2) (Tryd.lays159_ren.t 208) (of_decide_eq_true (by kernel_rfl)) (by kernel_rfl) (by kernel_rfl) (by kernel_rfl)
theorem laid_all (os : Os) (args : Array Value) : laidMet Tryd.prog Rows.fnConfigResourceTypeTextRow.laid ((laidWorld os).forCall (fun _ _ => 0) ⟨#[], args, []⟩).memory := by
  have h := laid_swap (l := [("unicode/utf8.acceptRanges", Rows.laid_unicode_utf8_acceptRanges), ("unicode.White_Space", Rows.laid_unicode_White_Space), ("strings.asciiSpace", Rows.laid_strings_asciiSpace)]) (laid_ends os args)
  exact h

/-! ### the row and the card -/
open Go.ChangeShapes Go.WideShapes Go.ChangeAt
set_option maxRecDepth 100000 in
theorem contract (H : Type) (enc : TypeId × Value → H) (W : World) (base : Nat) (args : Array Value) (ds gs : List (DataW H)) (before : List MemPlace)
    (hval : ∀ (j : Nat) t v, Tryd.f4.params[j]? = some t → args[j]? = some v → Value.okWide Tryd.prog W .any base t v)
    (hW : DataW.Whole enc Tryd.prog Tryd.f4.params.toList Rows.fnConfigResourceTypeTextSpec.vars false W args.toList ds gs before) (hL : laidMetH Tryd.prog Rows.fnConfigResourceTypeTextRow.laid W) :
    Calls Tryd.prog 4 args W fun e W' => ∃ v, e = .returned v ∧ Rows.fnConfigResourceTypeTextSpec.post enc Tryd.prog Tryd.f4 false true false false W args v W' := by
  have hW' := hW
  obtain ⟨p, q, hA0, hV, rfl, hfz, hnd⟩ := hW
  have hA : DataW.TrodAll enc Tryd.prog W 0 (fun _ => true) true Tryd.f4.params.toList args.toList ds p := hA0
  rw [Tryd.params4] at hA hval
  obtain ⟨v0, vs0, d0, ds0, p0, q0, hargs, rfl, rfl, h0, r0⟩ := trodAll_cons hA
  obtain ⟨rfl, rfl, rfl⟩ := trodAll_nil r0
  obtain rfl : args = #[v0] := by cases args; simp_all
  obtain ⟨n, rfl, _, _, wn0⟩ := open_int Tryd.underlying30 (hval 0 30 v0 rfl rfl) h0
  have wn : -128 ≤ n ∧ n ≤ 127 := by simpa [Lit.wf, IntKind.min, IntKind.max, IntKind.signed, IntKind.bits] using wn0
  refine (lawT (asc_laid hL) wn.1 wn.2).mono fun e W' ⟨he, hO⟩ => ?_
  subst he
  exact ⟨_, rfl, law_post laidOut hW' rfl (by
    rw [Tryd.params4]
    intro t ht
    have e : t = 30 := (by simpa using ht)
    rcases e with rfl <;> exact ⟨by kernel_rfl, of_decide_eq_true (by kernel_rfl)⟩) rfl rfl rfl (by kernel_rfl) Tryd.underlying4 hO⟩
theorem laid_met (os : Os) : laidMet Tryd.prog Rows.fnConfigResourceTypeTextRow.laid ((laidWorld os).forCall (fun _ _ => 0) ⟨#[], #[.int .i8 0], []⟩).memory :=
  laid_all os _
theorem reads (os : Os) {H : Type} (enc : TypeId × Value → H) : ∃ places, DataW.whole enc Tryd.prog ((laidWorld os).forCall (fun _ _ => 0) ⟨#[], #[.int .i8 0], []⟩).memory Tryd.f4.params.toList Rows.fnConfigResourceTypeTextSpec.vars false (#[.int .i8 0] : Array Value).toList 8 = some ([.lit (.int .i8 0)], [], places) :=
  ⟨[], by kernel_rfl⟩

set_option maxRecDepth 100000 in
theorem lifted (os : Os) (started : os.Started) (H : Type) (enc : TypeId × Value → H) (F : Stop.Interp) :
    ReturnsInHanded {} Tryd.checked os 4 .any ((OpenSpec.ofChange Rows.fnConfigResourceTypeTextSpec).preRow enc Tryd.prog Tryd.f4 Rows.fnConfigResourceTypeTextRow.domain false Rows.fnConfigResourceTypeTextRow.laid) (((OpenSpec.ofChange Rows.fnConfigResourceTypeTextSpec).at F).post enc Tryd.prog Tryd.f4 false true false false) := by
  obtain ⟨places, hx⟩ := reads os enc
  refine returnsInHanded_of_row (C := Tryd.checked) (s := OpenSpec.ofChange Rows.fnConfigResourceTypeTextSpec) own started (by kernel_rfl) Tryd.func4
    (witness_row_atRef (enc := enc) (C := Tryd.checked) false (laidWorld os) #[.int .i8 0] rfl (by kernel_rfl) (by kernel_rfl) (by kernel_rfl)
      (OpenSpec.preRow_of_cond 8 hx (by kernel_rfl) (fun k hk => by cases hk) (by kernel_rfl) (laid_met os))) ?_
  intro W base args ds gs before hval hW _ _ _ hL _ _
  exact contract H enc W base args ds gs before hval hW hL

set_option maxRecDepth 100000 in
theorem closed : joinedFacts Tryd.pinned.checked.prog 4 Tryd.f4 (OpenSpec.ofChange Rows.fnConfigResourceTypeTextSpec).bare Rows.fnConfigResourceTypeTextRow = true := by kernel_rfl
set_option maxRecDepth 100000 in
theorem named : Tryd.pinned.checked.prog.funcNamed Rows.fnConfigResourceTypeTextRow.func = some 4 := by kernel_rfl
set_option maxRecDepth 100000 in
theorem said : Rows.FnConfigResourceTypeTextSaid :=
  OpenClaim.holds_of_cond 4 Tryd.f4 rfl rfl rfl rfl rfl rfl rfl ⟨rfl, rfl, rfl, rfl, rfl⟩ rfl rfl rfl rfl rfl named Tryd.func4 closed
    (of_decide_eq_true (by kernel_rfl)) (by unfold Func.isWrapper; first | (rw [if_pos (by decide +kernel)]; kernel_rfl) | (rw [if_neg (by decide +kernel)]; exact ⟨rfl, rfl⟩))
    (fun os started H enc _ F => by rw [OpenClaim.pre_eq_preRow]; exact lifted os started H enc F)

theorem plain (f : FuncId) (fn : Func) (hf : Tryd.pinned.checked.prog.funcNamed "pub-kmsg/laws.FnConfigResourceTypeText" = some f) (hfn : Tryd.pinned.checked.prog.funcs[f]? = some fn) :
    false = Tryd.pinned.checked.prog.looks [] ∧ ∀ (j : Nat) t, fn.params[j]? = some t → Tryd.pinned.checked.prog.wantsStandIn t = false := by
  obtain rfl : f = 4 := Option.some.inj ((show Tryd.prog.funcNamed "pub-kmsg/laws.FnConfigResourceTypeText" = some 4 by kernel_rfl).symm.trans hf) |>.symm
  obtain rfl : fn = Tryd.f4 := (Option.some.inj (Tryd.func4.symm.trans hfn)).symm
  refine ⟨by kernel_rfl, fun j t ht => ?_⟩
  rw [Tryd.params4] at ht
  have ht' := Array.mem_of_getElem? ht
  have e : t = 30 := (by simpa using ht')
  rcases e with rfl
  all_goals exact (show Tryd.prog.wantsStandIn _ = false by kernel_rfl)

/-- The card. -/
theorem card : Rows.FnConfigResourceTypeTextCardSaid :=
  Claim7.holds_tied_plain_at .later [] _ _ _ _ said (fun _ h => by cases h) (by kernel_rfl) (fun _ h => by cases h) fnConfigResourceTypeText_row_tie rfl ⟨rfl, rfl⟩ (by kernel_rfl) rfl plain (by kernel_rfl)
end Go.Proofs.YthlfepgcjomhpaaDoor.Kf.LFnConfigResourceTypeText
