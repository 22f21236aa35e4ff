/- Reading, the fourth part: conditions on the version, and lists as a whole. -/
import Derived.Test.YtfimokbgggimmaaDoorReadC
namespace Go.Proofs.YtfimokbgggimmaaDoor.Kf
set_option linter.unusedVariables false
set_option linter.unusedSimpArgs false
open Go Go.RowKit

/-! ### operations with guards -/
section
variable {P : Program} {Q : Exit → Act → World → Prop} {a : Act} {w w' : World} {full cs : List Core}

def wpG (P : Program) (full : List Core) (Q : Exit → Act → World → Prop) (cs : List Core) (a : Act) (w : World) : Prop :=
  ∀ (all : Array Oper) (os : List Oper), (∀ j : Nat, (all[j]?).bind Oper.dst = (full[j]?).bind Core.dst) → wpList P all Q (mkOps cs os) a w

theorem mkOps_dst : ∀ (cs : List Core) (os : List Oper) (j : Nat), ((mkOps cs os)[j]?).bind Oper.dst = (cs[j]?).bind Core.dst := by
  intro cs
  induction cs with
  | nil => intro os j; simp [mkOps]
  | cons c cs ih =>
    intro os j
    obtain ⟨o, os', e⟩ := mkOps_cons c cs os
    rw [e]
    cases j with
    | zero => rfl
    | succ j => simpa using ih os' j

theorem wp_regG {c0 : Code} (h : wpG P cs Q cs a w) : (reg cs c0).wp P Q a w :=
  wp_region_list (by
    have := h (mkOps cs (Code.ops0 c0)).toArray (Code.ops0 c0) (fun j => by simpa using mkOps_dst cs (Code.ops0 c0) j)
    simpa using this)

theorem wpG_nil (h : Q .normal a w) : wpG P full Q [] a w := fun _ _ _ => wpList_nil h

theorem wpG_val {dst : Option Tmp} {op : Op} {v : Value} (hr : Runs P a w op v w') (h : wpG P full Q cs (a.put dst v) w') : wpG P full Q (⟨dst, op, none⟩ :: cs) a w := by
  intro all os hall
  obtain ⟨o, os', e⟩ := mkOps_cons ⟨dst, op, none⟩ cs os
  rw [e]
  refine wpList_plain rfl fun K hK => ?_
  show Oper.upon P _ a K Q _
  rw [hr (mkOp ⟨dst, op, none⟩ o) rfl]
  exact hK _ _ (h all os' hall)

theorem yielded_of {all : Array Oper} {j d : Nat} {b : Bool} (hall : ∀ j : Nat, (all[j]?).bind Oper.dst = (full[j]?).bind Core.dst) (hj : (full[j]?).bind Core.dst = some d) (hd : d < a.tmps.size) (hv : gt a d = .bool b) : yielded all a.tmps j = some b := by
  have : a.tmps[d]? = some (.bool b) := by
    simp only [gt, Array.getD_eq_getD_getElem?] at hv
    rw [Array.getElem?_eq_getElem hd] at hv ⊢
    simpa using hv
  simp [yielded, hall j, hj, this]

/-- An operation whose guard says yes. -/
theorem wpG_yes {dst : Option Tmp} {op : Op} {v : Value} {j d : Nat} {b : Bool} (hj : (full[j]?).bind Core.dst = some d) (hd : d < a.tmps.size) (hv : gt a d = .bool b) (hr : Runs P a w op v w') (h : wpG P full Q cs (a.put dst v) w') :
    wpG P full Q (⟨dst, op, some (j, b)⟩ :: cs) a w := by
  intro all os hall
  obtain ⟨o, os', e⟩ := mkOps_cons ⟨dst, op, some (j, b)⟩ cs os
  rw [e]
  refine wpList_step fun K hK => ?_
  have hw : Region.wanted (mkOp ⟨dst, op, some (j, b)⟩ o) (yielded all a.tmps) = true := by
    simp only [Region.wanted, mkOp]
    rw [yielded_of hall hj hd hv]
    simp
  rw [if_pos hw]
  show Oper.upon P _ a K Q _
  rw [hr (mkOp ⟨dst, op, some (j, b)⟩ o) rfl]
  exact hK _ _ (h all os' hall)

/-- An operation whose guard says no. -/
theorem wpG_no {dst : Option Tmp} {op : Op} {j d : Nat} {b c : Bool} (hj : (full[j]?).bind Core.dst = some d) (hd : d < a.tmps.size) (hv : gt a d = .bool c) (hne : c ≠ b) (h : wpG P full Q cs (a.put dst undef) w) :
    wpG P full Q (⟨dst, op, some (j, b)⟩ :: cs) a w := by
  intro all os hall
  obtain ⟨o, os', e⟩ := mkOps_cons ⟨dst, op, some (j, b)⟩ cs os
  rw [e]
  refine wpList_skip ?_ (h all os' hall)
  simp only [Region.wanted, mkOp]
  rw [yielded_of hall hj hd hv]
  simp [hne]

theorem runs_pick {c x y : Operand} {b : Bool} (hc : a.eval c = .bool b) : Runs P a w (.pick c x y) (if b then a.eval x else a.eval y) w := by
  intro o h
  cases b <;> simp [execOp, h, hc, asBool]
end

inductive Cond
  | all
  | ge (n : Int)
  | rng (lo hi : Int)
  deriving DecidableEq

def Cond.t : Cond → Nat
  | .all => 0
  | .ge _ => 2
  | .rng _ _ => 6

def Cond.holds (ver : Int) : Cond → Bool
  | .all => true
  | .ge n => decide (ver ≥ n)
  | .rng lo hi => decide (ver ≥ lo) && decide (ver ≤ hi)

/-- A test of the version in the slot vs. -/
def gCond (i16 vs : Nat) (m : Nat) (body : Code → Code) : Cond → Code → Code
  | .all, c => body c
  | .ge n, c => .seq (reg [⟨some m, .move (.tmp vs), none⟩, ⟨some (m + 1), .binOp .geq i16 (.tmp m) (.const (.int .i16 n)) i16, none⟩] (pc c [0])) (.cond (.tmp (m + 1)) (body (pc c [1, 0])) .skip)
  | .rng lo hi, c => .seq (reg [⟨some m, .move (.tmp vs), none⟩, ⟨some (m + 1), .binOp .geq i16 (.tmp m) (.const (.int .i16 lo)) i16, none⟩, ⟨some (m + 2), .move (.tmp (m + 1)), none⟩, ⟨some (m + 3), .move (.tmp vs), some (2, true)⟩,
      ⟨some (m + 4), .binOp .leq i16 (.tmp (m + 3)) (.const (.int .i16 hi)) i16, some (2, true)⟩, ⟨some (m + 5), .pick (.tmp (m + 2)) (.tmp (m + 4)) (.const (.bool false)), none⟩] (pc c [0])) (.cond (.tmp (m + 5)) (body (pc c [1, 0])) .skip)

section
variable {P : Program} {Q : Exit → Act → World → Prop} {a : Act} {w : World}

theorem gCond_wp {i16 vs m : Nat} {body : Code → Code} {cd : Cond} {c0 : Code} {ver : Int} (hver : gt a vs = .int .i16 ver) (hvs : vs < m) (hN : m + cd.t ≤ a.tmps.size)
    (yes : cd.holds ver = true → ∀ c a', Ag (fun j => m ≤ j ∧ j < m + cd.t) a a' → (body c).wp P Q a' w)
    (no : cd.holds ver = false → ∀ a', Ag (fun j => m ≤ j ∧ j < m + cd.t) a a' → Q .normal a' w) : (gCond i16 vs m body cd c0).wp P Q a w := by
  cases cd with
  | all => exact yes rfl c0 a (Ag.refl _ _)
  | ge n =>
    simp only [Cond.t] at hN yes no
    refine wp_seq (wp_reg (wpC_val (runs_move _) ?_))
    have z0 : m < a.tmps.size := by omega
    rw [evT, hver]
    have g1 := (Ag.refl (fun j => m ≤ j ∧ j < m + 2) a).put (d := m) (by omega) z0 (.int .i16 ver)
    have z1 : m + 1 < (a.put (some m) (.int .i16 ver)).tmps.size := by rw [g1.size]; omega
    refine wpC_val (runs_cmp .geq _ (.inr (.inl ⟨rfl, rfl⟩)) (k := .i16) (p := ver) (q := n) (by rw [evT, gt_put z0, if_pos rfl]) rfl) (wpC_nil ?_)
    have g2 := g1.put (d := m + 1) (by omega) z1 (.bool (decide (ver ≥ n)))
    have e2 : gt ((a.put (some m) (.int .i16 ver)).put (some (m + 1)) (.bool (decide (ver ≥ n)))) (m + 1) = .bool (decide (ver ≥ n)) := by rw [gt_put z1, if_pos rfl]
    generalize (a.put (some m) (.int .i16 ver)).put (some (m + 1)) (.bool (decide (ver ≥ n))) = a2 at g2 e2
    refine wp_cond (t := decide (ver ≥ n)) e2 ?_
    cases hh : decide (ver ≥ n) with
    | true => rw [if_pos rfl]; exact yes hh _ a2 g2
    | false => rw [if_neg (by decide)]; exact wp_skip (no hh a2 g2)
  | rng lo hi =>
    simp only [Cond.t] at hN yes no
    refine wp_seq (wp_regG (wpG_val (runs_move _) ?_))
    have z0 : m < a.tmps.size := by omega
    rw [evT, hver]
    have g1 := (Ag.refl (fun j => m ≤ j ∧ j < m + 6) a).put (d := m) (by omega) z0 (.int .i16 ver)
    have z1 : m + 1 < (a.put (some m) (.int .i16 ver)).tmps.size := by rw [g1.size]; omega
    refine wpG_val (runs_cmp .geq _ (.inr (.inl ⟨rfl, rfl⟩)) (k := .i16) (p := ver) (q := lo) (by rw [evT, gt_put z0, if_pos rfl]) rfl) ?_
    have g2 := g1.put (d := m + 1) (by omega) z1 (.bool (decide (ver ≥ lo)))
    have e2 : gt ((a.put (some m) (.int .i16 ver)).put (some (m + 1)) (.bool (decide (ver ≥ lo)))) (m + 1) = .bool (decide (ver ≥ lo)) := by rw [gt_put z1, if_pos rfl]
    generalize (a.put (some m) (.int .i16 ver)).put (some (m + 1)) (.bool (decide (ver ≥ lo))) = a2 at g2 e2
    have z2 : m + 2 < a2.tmps.size := by rw [g2.size]; omega
    refine wpG_val (runs_move _) ?_
    rw [evT, e2]
    have g3 := g2.put (d := m + 2) (by omega) z2 (.bool (decide (ver ≥ lo)))
    have e3 : gt (a2.put (some (m + 2)) (.bool (decide (ver ≥ lo)))) (m + 2) = .bool (decide (ver ≥ lo)) := by rw [gt_put z2, if_pos rfl]
    generalize a2.put (some (m + 2)) (.bool (decide (ver ≥ lo))) = a3 at g3 e3
    have v3 : gt a3 vs = .int .i16 ver := (g3.keep vs (by omega)).trans hver
    have z2' : m + 2 < a3.tmps.size := by rw [g3.size]; omega
    have z3 : m + 3 < a3.tmps.size := by rw [g3.size]; omega
    cases hlo : decide (ver ≥ lo) with
    | true =>
      rw [hlo] at e3
      refine wpG_yes (d := m + 2) rfl z2' e3 (runs_move _) ?_
      rw [evT, v3]
      have g4 := g3.put (d := m + 3) (by omega) z3 (.int .i16 ver)
      have z4 : m + 4 < (a3.put (some (m + 3)) (.int .i16 ver)).tmps.size := by rw [g4.size]; omega
      refine wpG_yes (d := m + 2) rfl (by rw [g4.size]; omega) (by rw [gt_put z3, if_neg (by omega)]; exact e3) (runs_cmp .leq _ (.inr (.inr (.inr (.inl ⟨rfl, rfl⟩)))) (k := .i16) (p := ver) (q := hi) (by rw [evT, gt_put z3, if_pos rfl]) rfl) ?_
      have g5 := g4.put (d := m + 4) (by omega) z4 (.bool (decide (ver ≤ hi)))
      have e5 : gt ((a3.put (some (m + 3)) (.int .i16 ver)).put (some (m + 4)) (.bool (decide (ver ≤ hi)))) (m + 4) = .bool (decide (ver ≤ hi)) := by rw [gt_put z4, if_pos rfl]
      have e5b : gt ((a3.put (some (m + 3)) (.int .i16 ver)).put (some (m + 4)) (.bool (decide (ver ≤ hi)))) (m + 2) = .bool true := by rw [gt_put z4, if_neg (by omega), gt_put z3, if_neg (by omega)]; exact e3
      generalize (a3.put (some (m + 3)) (.int .i16 ver)).put (some (m + 4)) (.bool (decide (ver ≤ hi))) = a5 at g5 e5 e5b
      have z5 : m + 5 < a5.tmps.size := by rw [g5.size]; omega
      refine wpG_val (runs_pick (b := true) e5b) (wpG_nil ?_)
      rw [if_pos rfl, evT, e5]
      have g6 := g5.put (d := m + 5) (by omega) z5 (.bool (decide (ver ≤ hi)))
      have e6 : gt (a5.put (some (m + 5)) (.bool (decide (ver ≤ hi)))) (m + 5) = .bool (decide (ver ≤ hi)) := by rw [gt_put z5, if_pos rfl]
      refine wp_cond (t := decide (ver ≤ hi)) e6 ?_
      cases hh : decide (ver ≤ hi) with
      | true => rw [if_pos rfl, ← hh]; exact yes (by simp only [Cond.holds, hlo, hh]; rfl) _ _ g6
      | false => rw [if_neg (by decide), ← hh]; exact wp_skip (no (by simp only [Cond.holds, hlo, hh]; rfl) _ g6)
    | false =>
      rw [hlo] at e3
      refine wpG_no (d := m + 2) rfl z2' e3 (by decide) ?_
      have g4 := g3.put (d := m + 3) (by omega) z3 undef
      have z4 : m + 4 < (a3.put (some (m + 3)) undef).tmps.size := by rw [g4.size]; omega
      refine wpG_no (d := m + 2) rfl (by rw [g4.size]; omega) (by rw [gt_put z3, if_neg (by omega)]; exact e3) (by decide) ?_
      have g5 := g4.put (d := m + 4) (by omega) z4 undef
      have e5b : gt ((a3.put (some (m + 3)) undef).put (some (m + 4)) undef) (m + 2) = .bool false := by rw [gt_put z4, if_neg (by omega), gt_put z3, if_neg (by omega)]; exact e3
      generalize (a3.put (some (m + 3)) undef).put (some (m + 4)) undef = a5 at g5 e5b
      have z5 : m + 5 < a5.tmps.size := by rw [g5.size]; omega
      refine wpG_val (runs_pick (b := false) e5b) (wpG_nil ?_)
      rw [if_neg (by decide)]
      have g6 := g5.put (d := m + 5) (by omega) z5 (.bool false)
      have e6 : gt (a5.put (some (m + 5)) (.bool false)) (m + 5) = .bool false := by rw [gt_put z5, if_pos rfl]
      exact wp_cond (t := false) e6 (by rw [if_neg (by decide)]; exact wp_skip (no (by simp only [Cond.holds, hlo]; rfl) _ g6))
end
end Go.Proofs.YtfimokbgggimmaaDoor.Kf
