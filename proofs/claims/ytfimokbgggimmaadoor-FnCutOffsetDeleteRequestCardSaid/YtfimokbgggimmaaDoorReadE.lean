/- Reading, the fifth part: a list as a whole. -/
import Derived.Test.YtfimokbgggimmaaDoorReadD
namespace Go.Proofs.YtfimokbgggimmaaDoor.Kf
set_option linter.unusedVariables false
set_option linter.unusedSimpArgs false
open Go Go.RowKit

/-! ### small pieces -/

def gLoad (T i u s k m : Nat) (c0 : Code) : Code :=
  reg [⟨some m, .move (.tmp s), none⟩, ⟨some (m + 1), .nilCheck (.tmp m), none⟩, ⟨some (m + 2), .fieldAddr T (.tmp (m + 1)) i, none⟩, ⟨some (m + 3), .load u (.tmp (m + 2)), none⟩, ⟨some k, .assign (.tmp (m + 3)), none⟩] c0
def gCopy (s d m : Nat) (c0 : Code) : Code := reg [⟨some m, .move (.tmp s), none⟩, ⟨some d, .assign (.tmp m), none⟩] c0
def gConst (d : Nat) (v : Value) (c0 : Code) : Code := reg [⟨some d, .assign (.const v), none⟩] c0

section
variable {P : Program} {Q : Exit → Act → World → Prop} {a : Act} {w : World}

theorem gLoad_wp {T i o n u s k m b off : Nat} {c0 : Code} {v : Value} (hs : gt a s = .pointer (some ⟨b, off, none⟩)) (hf : FieldAt P T i o u n) (h1 : One P u) (hv : w.cell? ⟨b, off + o, none⟩ = some v) (hk : k < m) (hN : m + 4 ≤ a.tmps.size)
    (h : ∀ a', Ag (fun j => j = k ∨ (m ≤ j ∧ j < m + 4)) a a' → gt a' k = v → Q .normal a' w) : (gLoad T i u s k m c0).wp P Q a w := by
  refine wp_reg (wpC_val (runs_move _) ?_)
  have z0 : m < a.tmps.size := by omega
  rw [evT, hs]
  have g1 := (Ag.refl (fun j => j = k ∨ (m ≤ j ∧ j < m + 4)) a).put (d := m) (by omega) z0 (.pointer (some ⟨b, off, none⟩))
  have e1 : gt (a.put (some m) (.pointer (some ⟨b, off, none⟩))) m = .pointer (some ⟨b, off, none⟩) := by rw [gt_put z0, if_pos rfl]
  generalize a.put (some m) (.pointer (some ⟨b, off, none⟩)) = a1 at g1 e1
  refine wpC_val (runs_nilCheck (p := ⟨b, off, none⟩) e1) ?_
  have z1 : m + 1 < a1.tmps.size := by rw [g1.size]; omega
  have g2 := g1.put (d := m + 1) (by omega) z1 (.pointer (some ⟨b, off, none⟩))
  have e2 : gt (a1.put (some (m + 1)) (.pointer (some ⟨b, off, none⟩))) (m + 1) = .pointer (some ⟨b, off, none⟩) := by rw [gt_put z1, if_pos rfl]
  generalize a1.put (some (m + 1)) (.pointer (some ⟨b, off, none⟩)) = a2 at g2 e2
  refine wpC_val (runs_fieldAddr hf (p := ⟨b, off, none⟩) e2) ?_
  rw [Addr.add_lit]
  have z2 : m + 2 < a2.tmps.size := by rw [g2.size]; omega
  have g3 := g2.put (d := m + 2) (by omega) z2 (.pointer (some ⟨b, off + o, none⟩))
  have e3 : gt (a2.put (some (m + 2)) (.pointer (some ⟨b, off + o, none⟩))) (m + 2) = .pointer (some ⟨b, off + o, none⟩) := by rw [gt_put z2, if_pos rfl]
  generalize a2.put (some (m + 2)) (.pointer (some ⟨b, off + o, none⟩)) = a3 at g3 e3
  refine wpC_val (runs_load h1 (p := ⟨b, off + o, none⟩) e3 hv) ?_
  have z3 : m + 3 < a3.tmps.size := by rw [g3.size]; omega
  have g4 := g3.put (d := m + 3) (by omega) z3 v
  have e4 : gt (a3.put (some (m + 3)) v) (m + 3) = v := by rw [gt_put z3, if_pos rfl]
  generalize a3.put (some (m + 3)) v = a4 at g4 e4
  refine wpC_val (runs_assign _) (wpC_nil ?_)
  rw [evT, e4]
  have z4 : k < a4.tmps.size := by rw [g4.size]; omega
  exact h _ (g4.put (d := k) (by omega) z4 v) (by rw [gt_put z4, if_pos rfl])

theorem gCopy_wp {s d m : Nat} {c0 : Code} (hd : d < a.tmps.size) (hm : m < a.tmps.size) (h : ∀ a', Ag (fun j => j = d ∨ j = m) a a' → gt a' d = gt a s → Q .normal a' w) : (gCopy s d m c0).wp P Q a w := by
  refine wp_reg (wpC_val (runs_move _) ?_)
  have g1 := (Ag.refl (fun j => j = d ∨ j = m) a).put (d := m) (by omega) hm (a.eval (.tmp s))
  have e1 : gt (a.put (some m) (a.eval (.tmp s))) m = gt a s := by rw [gt_put hm, if_pos rfl]; rfl
  generalize a.put (some m) (a.eval (.tmp s)) = a1 at g1 e1
  refine wpC_val (runs_assign _) (wpC_nil ?_)
  have z : d < a1.tmps.size := by rw [g1.size]; exact hd
  exact h _ (g1.put (d := d) (by omega) z _) (by rw [gt_put z, if_pos rfl]; exact e1)

theorem gConst_wp {d : Nat} {v : Value} {c0 : Code} (hd : d < a.tmps.size) (h : ∀ a', Ag (fun j => j = d) a a' → gt a' d = v → Q .normal a' w) : (gConst d v c0).wp P Q a w :=
  wp_reg (wpC_val (runs_assign _) (wpC_nil (h _ ((Ag.refl (fun j => j = d) a).put (d := d) rfl hd _) (by rw [gt_put hd, if_pos rfl]; rfl))))
end

/-! ### a list's length -/

inductive Fl
  | one (F : Nat)
  | two (Fc Fp : Nat)
  deriving DecidableEq

def Fl.t : Fl → Nat
  | .one _ => 1
  | .two _ _ => 3
def Fl.c (flex : Bool) : Fl → Bool
  | .one _ => false
  | .two _ _ => flex
def Fl.ok (P : Program) (fx : Bool) : Fl → Prop
  | .one F => LenC P F false
  | .two Fc Fp => fx = true ∧ LenC P Fc true ∧ LenC P Fp false

def gLen (G : Gn) (k m : Nat) : Fl → Code → Code
  | .one F, c => gCall G F k m c
  | .two Fc Fp, c => .seq (gMove 9 m (pc c [0])) (.cond (.tmp m) (gCall G Fc k (m + 1) (pc c [1, 0])) (gCall G Fp k (m + 2) (pc c [1, 1])))

section
variable {X : RX} {Q : Exit → Act → World → Prop}

structure LGot (X : RX) (c : Bool) (k m : Nat) (a : Act) (w : World) (bs : List UInt8) (bad : Bool) (a' : Act) (w' : World) (r : Int) : Prop where
  ag : Ag (Ch X.M0 k m) a a'
  val : gt a' k = .int .i32 r
  only : Only (· = X.rb) w w'
  comes : (bad = false ∧ ∃ bs', lenDec c bs = some (r, bs') ∧ r ≤ bs'.length ∧ bs'.length ≤ bs.length ∧ ∃ nn, Rd X.D X.rb w' nn bs' false) ∨ ((bad = true ∨ lenDec c bs = none) ∧ Rd X.D X.rb w' false [] true)

theorem gCall_len {F k m : Nat} {c0 : Code} {c : Bool} (hF : LenC X.P F c) {a a0 : Act} {w : World} {nn : Bool} {bs : List UInt8} {bad : Bool} {m0 : Nat} (hst : St X a w nn bs bad)
    (h0 : Ag (Ch X.M0 k m0) a0 a) (hk : k < X.M0) (hm : m0 ≤ m) (hM : X.M0 ≤ m) (hN : m < X.N)
    (h : ∀ a' w' r, LGot X c k m0 a0 w bs bad a' w' r → Q .normal a' w') : (gCall X.G F k m c0).wp X.P Q a w := by
  refine wp_reg (wpC_call (R := fun v w' => ∃ r : Int, v = .int .i32 r ∧ Only (· = X.rb) w w' ∧
    ((bad = false ∧ ∃ bs', lenDec c bs = some (r, bs') ∧ r ≤ bs'.length ∧ bs'.length ≤ bs.length ∧ ∃ nn, Rd X.D X.rb w' nn bs' false) ∨ ((bad = true ∨ lenDec c bs = none) ∧ Rd X.D X.rb w' false [] true))) hF.1 ?_ fun v w' hv => ?_)
  · have e : (#[Operand.tmp 7] : Array Operand).map a.eval = #[.pointer (some ⟨X.rb, 0, none⟩)] := by
      have := hst.rd
      simp only [gt] at this
      simp [Act.eval, this]
    rw [e]
    exact hF.2 X.D X.rb w nn bs bad hst.st hst.lim
  · obtain ⟨r, rfl, ho, hc⟩ := hv
    have hs : m < a.tmps.size := by rw [hst.size]; exact hN
    have hk2 : k < (a.put (some m) (.int .i32 r)).tmps.size := by rw [size_put, hst.size]; omega
    have ha1 : Ag (Ch X.M0 k m0) a0 (a.put (some m) (.int .i32 r)) := h0.put (by unfold Ch; omega) hs _
    have hev : (a.put (some m) (.int .i32 r)).eval (.tmp m) = .int .i32 r := by
      show gt (a.put (some m) (.int .i32 r)) m = _
      rw [gt_put hs, if_pos rfl]
    refine wpC_val (runs_assign _) (wpC_nil ?_)
    rw [hev]
    refine h _ w' r ⟨ha1.put (by unfold Ch; omega) hk2 _, ?_, ho, hc⟩
    rw [gt_put hk2, if_pos rfl]

theorem gLen_wp (l : Fl) {k m : Nat} {c0 : Code} (hl : l.ok X.P X.fx) {a : Act} {w : World} {nn : Bool} {bs : List UInt8} {bad : Bool} (hst : St X a w nn bs bad) (h9 : 9 < k) (hk : k < X.M0) (hm : X.M0 ≤ m) (hN : m + l.t ≤ X.N)
    (h : ∀ a' w' r, LGot X (l.c X.flex) k m a w bs bad a' w' r → Q .normal a' w') : (gLen X.G k m l c0).wp X.P Q a w := by
  cases l with
  | one F => simp only [Fl.t] at hN; exact gCall_len hl hst (Ag.refl _ _) hk (Nat.le_refl _) hm (by omega) h
  | two Fc Fp =>
    simp only [Fl.t] at hN
    obtain ⟨hfx, hc, hp⟩ := hl
    have z0 : m < a.tmps.size := by rw [hst.size]; omega
    refine wp_seq (gMove_wp (X := X) z0 ?_)
    have g2 := (Ag.refl (Ch X.M0 k m) a).put (d := m) (by unfold Ch; omega) z0 (gt a 9)
    have st2 := hst.act g2 h9 (by omega) (by omega)
    refine wp_cond (t := X.flex) (show gt _ m = _ by rw [gt_put z0, if_pos rfl, hst.fl hfx]) ?_
    cases hf : X.flex with
    | true =>
      rw [if_pos rfl]
      exact gCall_len hc st2 g2 hk (by omega) (by omega) (by omega) fun a' w' r hr => h a' w' r (by simpa [Fl.c, hf] using hr)
    | false =>
      rw [if_neg (by decide)]
      exact gCall_len hp st2 g2 hk (by omega) (by omega) (by omega) fun a' w' r hr => h a' w' r (by simpa [Fl.c, hf] using hr)
end

/-! ### null or of no things; has the reader failed -/

def gNull (G : Gn) (TS ls as m : Nat) : Option Int → (Code → Code) → Code → Code
  | none, next, c => next c
  | some n, next, c => .seq (.seq (reg [⟨some m, .move (.tmp 8), none⟩, ⟨some (m + 1), .binOp .lss G.i16 (.tmp m) (.const (.int .i16 n)) G.i16, none⟩, ⟨some (m + 2), .move (.tmp (m + 1)), none⟩, ⟨some (m + 3), .move (.tmp ls), some (2, false)⟩,
      ⟨some (m + 4), .binOp .eql G.i32 (.tmp (m + 3)) (.const (.int .i32 0)) G.i32, some (2, false)⟩, ⟨some (m + 5), .pick (.tmp (m + 2)) (.const (.bool true)) (.tmp (m + 4)), none⟩] (pc c [0, 0]))
      (.cond (.tmp (m + 5)) (reg [⟨some (m + 6), .buildSlice TS 0 #[], none⟩, ⟨some as, .assign (.tmp (m + 6)), none⟩] (pc c [0, 1, 0])) .skip)) (next (pc c [1]))

def nullT : Option Int → Nat
  | none => 0
  | some _ => 7

/-- Whether the list is made to be one of no things. -/
def nullB (ver : Int) (r : Int) : Option Int → Bool
  | none => false
  | some n => decide (ver < n) || (r == 0)

section
variable {X : RX} {Q : Exit → Act → World → Prop}

theorem gNull_wp {TS sz eb : Nat} {zs : List Value} (hS : Sl X.P TS sz eb zs) {ls as m : Nat} {nl : Option Int} {next : Code → Code} {c0 : Code} {a : Act} {w : World} {ver r : Int} (hver : gt a 8 = .int .i16 ver) (hl : gt a ls = .int .i32 r) (h8 : 8 < m) (hlm : ls < m) (ham : as < m) (hN : m + nullT nl ≤ a.tmps.size)
    (yes : nullB ver r nl = true → ∀ c a' e, Ag (fun j => j = as ∨ (m ≤ j ∧ j < m + 7)) a a' → gt a' as = .slice (some ⟨w.heap.size, 0, none⟩) 0 0 → (next c).wp X.P Q a' (w.alloc (.cells #[] e)))
    (no : nullB ver r nl = false → ∀ c a', Ag (fun j => m ≤ j ∧ j < m + 7) a a' → (next c).wp X.P Q a' w) : (gNull X.G TS ls as m nl next c0).wp X.P Q a w := by
  cases nl with
  | none => exact no rfl c0 a (Ag.refl _ _)
  | some n =>
    simp only [nullT] at hN
    refine wp_seq (wp_seq (wp_regG (wpG_val (runs_move _) ?_)))
    have z0 : m < a.tmps.size := by omega
    rw [evT, hver]
    have g1 := (Ag.refl (fun j => m ≤ j ∧ j < m + 7) a).put (d := m) (by omega) z0 (.int .i16 ver)
    have z1 : m + 1 < (a.put (some m) (.int .i16 ver)).tmps.size := by rw [g1.size]; omega
    refine wpG_val (runs_cmp .lss _ (.inl ⟨rfl, rfl⟩) (k := .i16) (p := ver) (q := n) (by rw [evT, gt_put z0, if_pos rfl]) rfl) ?_
    have g2 := g1.put (d := m + 1) (by omega) z1 (.bool (decide (ver < n)))
    have e2 : gt ((a.put (some m) (.int .i16 ver)).put (some (m + 1)) (.bool (decide (ver < n)))) (m + 1) = .bool (decide (ver < n)) := by rw [gt_put z1, if_pos rfl]
    generalize (a.put (some m) (.int .i16 ver)).put (some (m + 1)) (.bool (decide (ver < n))) = a2 at g2 e2
    have z2 : m + 2 < a2.tmps.size := by rw [g2.size]; omega
    refine wpG_val (runs_move _) ?_
    rw [evT, e2]
    have g3 := g2.put (d := m + 2) (by omega) z2 (.bool (decide (ver < n)))
    have e3 : gt (a2.put (some (m + 2)) (.bool (decide (ver < n)))) (m + 2) = .bool (decide (ver < n)) := by rw [gt_put z2, if_pos rfl]
    generalize a2.put (some (m + 2)) (.bool (decide (ver < n))) = a3 at g3 e3
    have v3 : gt a3 ls = .int .i32 r := (g3.keep ls (by omega)).trans hl
    have z2' : m + 2 < a3.tmps.size := by rw [g3.size]; omega
    have z3 : m + 3 < a3.tmps.size := by rw [g3.size]; omega
    -- behind the test
    have behind : ∀ a5 : Act, Ag (fun j => m ≤ j ∧ j < m + 7) a a5 → (∀ b, gt a5 (m + 2) = .bool b → b = decide (ver < n)) → ∀ t : Bool, (nullB ver r (some n) = t) → gt a5 (m + 5) = .bool t →
        (Code.cond (.tmp (m + 5)) (reg [⟨some (m + 6), .buildSlice TS 0 #[], none⟩, ⟨some as, .assign (.tmp (m + 6)), none⟩] (pc c0 [0, 1, 0])) .skip).wp X.P (Exit.then ((next (pc c0 [1])).wp X.P Q) Q) a5 w := by
      intro a5 g5 _ t ht he
      refine wp_cond (t := t) he ?_
      cases t with
      | true =>
        rw [if_pos rfl]
        obtain ⟨e, hr⟩ := runs_empty (a := a5) (w := w) hS
        have y1 : m + 6 < a5.tmps.size := by rw [g5.size]; omega
        refine wp_reg (wpC_val hr ?_)
        have k1 := (g5.mono (S' := fun j => j = as ∨ (m ≤ j ∧ j < m + 7)) (fun j hj => .inr hj)).put (d := m + 6) (by omega) y1 (.slice (some ⟨w.heap.size, 0, none⟩) 0 0)
        have q1 : gt (a5.put (some (m + 6)) (.slice (some ⟨w.heap.size, 0, none⟩) 0 0)) (m + 6) = .slice (some ⟨w.heap.size, 0, none⟩) 0 0 := by rw [gt_put y1, if_pos rfl]
        generalize a5.put (some (m + 6)) (.slice (some ⟨w.heap.size, 0, none⟩) 0 0) = a6 at k1 q1
        refine wpC_val (runs_assign _) (wpC_nil ?_)
        rw [evT, q1]
        have y2 : as < a6.tmps.size := by rw [k1.size]; omega
        exact yes ht _ _ e (k1.put (d := as) (by omega) y2 _) (by rw [gt_put y2, if_pos rfl])
      | false =>
        rw [if_neg (by decide)]
        exact wp_skip (no ht _ a5 g5)
    cases hlo : decide (ver < n) with
    | false =>
      rw [hlo] at e3
      refine wpG_yes (d := m + 2) rfl z2' e3 (runs_move _) ?_
      rw [evT, v3]
      have g4 := g3.put (d := m + 3) (by omega) z3 (.int .i32 r)
      have z4 : m + 4 < (a3.put (some (m + 3)) (.int .i32 r)).tmps.size := by rw [g4.size]; omega
      refine wpG_yes (d := m + 2) rfl (by rw [g4.size]; omega) (by rw [gt_put z3, if_neg (by omega)]; exact e3) (runs_cmp .eql _ (.inr (.inr (.inr (.inr ⟨rfl, rfl⟩)))) (k := .i32) (p := r) (q := 0) (by rw [evT, gt_put z3, if_pos rfl]) rfl) ?_
      have g5 := g4.put (d := m + 4) (by omega) z4 (.bool (r == 0))
      have e5 : gt ((a3.put (some (m + 3)) (.int .i32 r)).put (some (m + 4)) (.bool (r == 0))) (m + 4) = .bool (r == 0) := by rw [gt_put z4, if_pos rfl]
      have e5b : gt ((a3.put (some (m + 3)) (.int .i32 r)).put (some (m + 4)) (.bool (r == 0))) (m + 2) = .bool false := by rw [gt_put z4, if_neg (by omega), gt_put z3, if_neg (by omega)]; exact e3
      generalize (a3.put (some (m + 3)) (.int .i32 r)).put (some (m + 4)) (.bool (r == 0)) = a5 at g5 e5 e5b
      have z5 : m + 5 < a5.tmps.size := by rw [g5.size]; omega
      refine wpG_val (runs_pick (b := false) e5b) (wpG_nil ?_)
      rw [if_neg (by decide), evT, e5]
      have g6 := g5.put (d := m + 5) (by omega) z5 (.bool (r == 0))
      have e6 : gt (a5.put (some (m + 5)) (.bool (r == 0))) (m + 5) = .bool (r == 0) := by rw [gt_put z5, if_pos rfl]
      have e7 : gt (a5.put (some (m + 5)) (.bool (r == 0))) (m + 2) = .bool false := by rw [gt_put z5, if_neg (by omega)]; exact e5b
      refine behind _ g6 (fun b hb => ?_) (r == 0) ?_ e6
      · rw [e7] at hb; injection hb with hb; rw [← hb, hlo]
      · simp only [nullB, hlo, Bool.false_or]
    | true =>
      rw [hlo] at e3
      refine wpG_no (d := m + 2) rfl z2' e3 (by decide) ?_
      have g4 := g3.put (d := m + 3) (by omega) z3 undef
      have z4 : m + 4 < (a3.put (some (m + 3)) undef).tmps.size := by rw [g4.size]; omega
      refine wpG_no (d := m + 2) rfl (by rw [g4.size]; omega) (by rw [gt_put z3, if_neg (by omega)]; exact e3) (by decide) ?_
      have g5 := g4.put (d := m + 4) (by omega) z4 undef
      have e5b : gt ((a3.put (some (m + 3)) undef).put (some (m + 4)) undef) (m + 2) = .bool true := by rw [gt_put z4, if_neg (by omega), gt_put z3, if_neg (by omega)]; exact e3
      generalize (a3.put (some (m + 3)) undef).put (some (m + 4)) undef = a5 at g5 e5b
      have z5 : m + 5 < a5.tmps.size := by rw [g5.size]; omega
      refine wpG_val (runs_pick (b := true) e5b) (wpG_nil ?_)
      rw [if_pos rfl]
      have g6 := g5.put (d := m + 5) (by omega) z5 (a5.eval (.const (.bool true)))
      have e6 : gt (a5.put (some (m + 5)) (a5.eval (.const (.bool true)))) (m + 5) = .bool true := by rw [gt_put z5, if_pos rfl]; rfl
      have e7 : gt (a5.put (some (m + 5)) (a5.eval (.const (.bool true)))) (m + 2) = .bool true := by rw [gt_put z5, if_neg (by omega)]; exact e5b
      refine behind _ g6 (fun b hb => ?_) true ?_ e6
      · rw [e7] at hb; injection hb with hb; rw [← hb, hlo]
      · simp only [nullB, hlo, Bool.true_or]

def gOk (G : Gn) (m : Nat) (c0 : Code) : Code :=
  .seq (reg [⟨some m, .call ⟨.value (.func G.ok), #[.tmp 7], #[G.rt]⟩, none⟩, ⟨some (m + 1), .unOp .not G.bool (.tmp m), none⟩] (pc c0 [0]))
    (.cond (.tmp (m + 1)) (.seq (reg [⟨some (m + 2), .call ⟨.value (.func G.co), #[.tmp 7], #[G.rt]⟩, none⟩, ⟨some 6, .assign (.tmp (m + 2)), none⟩] (pc c0 [1, 0, 0])) .ret) .skip)

/-- The reader's own functions do what they must. -/
structure XOk (X : RX) : Prop where
  ok : OkC X.P X.G.ok
  co : CompC X.P X.G.co X.I
  i32 : X.P.underlying X.G.i32 = some (.int .i32)
  N0 : 10 ≤ X.M0

theorem Only.none {w w' : World} (h : Only (fun _ => False) w w') (S : Nat → Prop) : Only S w w' := h.mono fun _ _ x => x.elim

theorem St.none {a : Act} {w w' : World} {nn : Bool} {bs : List UInt8} {bad : Bool} (hst : St X a w nn bs bad) (h : Only (fun _ => False) w w') : St X a w' nn bs bad := by
  have hr := hst.rb_gt
  have hl := hst.st.lt
  exact hst.world (hst.st.keep (h.block _ (by omega) id) (h.block _ hl id)) (Nat.le_refl _) (h.none _)

theorem argRd {a : Act} {w : World} {nn : Bool} {bs : List UInt8} {bad : Bool} (hst : St X a w nn bs bad) : (#[Operand.tmp 7] : Array Operand).map a.eval = #[.pointer (some ⟨X.rb, 0, none⟩)] := by
  have := hst.rd
  simp only [gt] at this
  simp [Act.eval, this]

theorem gOk_wp (hX : XOk X) {m : Nat} {c0 : Code} {a : Act} {w : World} {nn : Bool} {bs : List UInt8} {bad : Bool} (hst : St X a w nn bs bad) (hm : X.M0 ≤ m) (hN : m + 3 ≤ X.N)
    (good : bad = false → ∀ a' w', Ag (fun j => m ≤ j ∧ j < m + 3) a a' → Only (fun _ => False) w w' → Q .normal a' w')
    (ret : bad = true → ∀ a' w', a'.defers = [] → IsErr true (gt a' 6) → Only (fun _ => False) w w' → Q .ret a' w') : (gOk X.G m c0).wp X.P Q a w := by
  have hM := hX.N0
  refine wp_seq (wp_reg (wpC_call (R := fun v w' => v = .bool (!bad) ∧ Only (fun _ => False) w w') hX.ok.1 (by rw [argRd hst]; exact hX.ok.2 X.D X.rb w nn bs bad hst.st) ?_))
  rintro v w1 ⟨rfl, ho⟩
  have z0 : m < a.tmps.size := by rw [hst.size]; omega
  have g1 := (Ag.refl (fun j => m ≤ j ∧ j < m + 3) a).put (d := m) (by omega) z0 (.bool (!bad))
  have e1 : gt (a.put (some m) (.bool (!bad))) m = .bool (!bad) := by rw [gt_put z0, if_pos rfl]
  generalize a.put (some m) (.bool (!bad)) = a1 at g1 e1
  have z1 : m + 1 < a1.tmps.size := by rw [g1.size, hst.size]; omega
  refine wpC_val (runs_not (b := !bad) e1) (wpC_nil ?_)
  rw [Bool.not_not]
  have g2 := g1.put (d := m + 1) (by omega) z1 (.bool bad)
  have e2 : gt (a1.put (some (m + 1)) (.bool bad)) (m + 1) = .bool bad := by rw [gt_put z1, if_pos rfl]
  generalize a1.put (some (m + 1)) (.bool bad) = a2 at g2 e2
  refine wp_cond (t := bad) e2 ?_
  have st2 : St X a2 w1 nn bs bad := (hst.none ho).act (k := X.M0) (m := m) (g2.mono fun j hj => by unfold Ch; omega) (by omega) (by omega) (by omega)
  cases hb : bad with
  | true =>
    rw [if_pos rfl]
    refine wp_seq (wp_reg (wpC_call (R := fun v w' => IsErr bad v ∧ Only (fun _ => False) w1 w') hX.co.1 (by rw [argRd st2]; exact hX.co.2 X.D X.rb w1 nn bs bad st2.inv st2.st) ?_))
    rintro v w2 ⟨hv, ho2⟩
    have z2 : m + 2 < a2.tmps.size := by rw [st2.size]; omega
    have y1 : gt (a2.put (some (m + 2)) v) (m + 2) = v := by rw [gt_put z2, if_pos rfl]
    refine wpC_val (runs_assign _) (wpC_nil (wp_ret ?_))
    rw [evT, y1]
    refine ret hb _ w2 (by rw [defers_put, defers_put]; exact st2.defers) ?_ (ho.trans ho2)
    rw [gt_put (by rw [size_put, st2.size]; omega), if_pos rfl, ← hb]
    exact hv
  | false =>
    rw [if_neg (by decide)]
    exact wp_skip (good hb a2 w1 g2 ho)
end
end Go.Proofs.YtfimokbgggimmaaDoor.Kf
