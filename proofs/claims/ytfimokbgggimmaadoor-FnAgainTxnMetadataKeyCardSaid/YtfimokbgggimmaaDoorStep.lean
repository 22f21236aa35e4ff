/- One operation at a time, over any program and any slots: what an operation comes to, and how a list of operations is gone through. -/
import Derived.WalkKit
import Derived.WideLaws
namespace Go.Proofs.YtfimokbgggimmaaDoor.Kf
set_option linter.unusedVariables false
set_option linter.unusedSimpArgs false
open Go Go.RowKit

/-- What a slot holds. -/
def gt (a : Act) (j : Nat) : Value := a.tmps.getD j undef

theorem gt_put {a : Act} {d : Nat} {v : Value} (h : d < a.tmps.size) (j : Nat) : gt (a.put (some d) v) j = if j = d then v else gt a j := by
  simp only [gt, Act.put, Array.getD_eq_getD_getElem?, Array.getElem?_setIfInBounds]
  by_cases hj : j = d
  · subst hj; simp [h]
  · rw [if_neg hj, if_neg (fun e => hj e.symm)]

theorem size_put (a : Act) (o : Option Tmp) (v : Value) : (a.put o v).tmps.size = a.tmps.size := by
  cases o <;> simp [Act.put]
theorem defers_put (a : Act) (o : Option Tmp) (v : Value) : (a.put o v).defers = a.defers := by
  cases o <;> rfl
theorem put_none (a : Act) (v : Value) : a.put none v = a := rfl

/-- Outside S the slots are as they were. -/
structure Ag (S : Nat → Prop) (a a' : Act) : Prop where
  size : a'.tmps.size = a.tmps.size
  defers : a'.defers = a.defers
  keep : ∀ j, ¬ S j → gt a' j = gt a j

theorem Ag.refl (S : Nat → Prop) (a : Act) : Ag S a a := ⟨rfl, rfl, fun _ _ => rfl⟩
theorem Ag.trans {S : Nat → Prop} {a b c : Act} (h : Ag S a b) (k : Ag S b c) : Ag S a c :=
  ⟨k.size.trans h.size, k.defers.trans h.defers, fun j hj => (k.keep j hj).trans (h.keep j hj)⟩
theorem Ag.mono {S S' : Nat → Prop} {a b : Act} (h : Ag S a b) (hs : ∀ j, S j → S' j) : Ag S' a b :=
  ⟨h.size, h.defers, fun j hj => h.keep j (fun x => hj (hs j x))⟩
theorem Ag.put {S : Nat → Prop} {a b : Act} (h : Ag S a b) {d : Nat} (hd : S d) (hs : d < b.tmps.size) (v : Value) : Ag S a (b.put (some d) v) :=
  ⟨(size_put _ _ _).trans h.size, (defers_put _ _ _).trans h.defers, fun j hj => by
    rw [gt_put hs, if_neg (by intro e; subst e; exact hj hd)]; exact h.keep j hj⟩

/-! ### a region out of what matters of its operations, the rest (places in the text, edges, types) as another region has it -/

structure Core where
  dst : Option Tmp
  op : Op
  guard : Option (Nat × Bool) := none

def mkOp (c : Core) (o : Oper) : Oper := ⟨c.dst, c.op, o.type, o.pos, o.after, c.guard⟩

def mkOps : List Core → List Oper → List Oper
  | [], _ => []
  | c :: cs, [] => mkOp c default :: mkOps cs []
  | c :: cs, o :: os => mkOp c o :: mkOps cs os

def Code.ops0 : Code → List Oper
  | .region _ ops _ => ops.toList
  | _ => []
def Code.id0 : Code → Nat
  | .region id _ _ => id
  | .block id _ => id
  | _ => 0
def Code.fst : Code → Code
  | .seq a _ => a
  | .cond _ a _ => a
  | .block _ a => a
  | .loop a => a
  | .scope a => a
  | _ => .skip
def Code.snd : Code → Code
  | .seq _ b => b
  | .cond _ _ b => b
  | _ => .skip

/-- The part of a code at a path: 0: the first, 1: the second. -/
def pc : Code → List Nat → Code
  | c, [] => c
  | c, 0 :: p => pc (Code.fst c) p
  | c, _ :: p => pc (Code.snd c) p

def reg (cs : List Core) (c0 : Code) : Code := .region (Code.id0 c0) (mkOps cs (Code.ops0 c0)).toArray false

section
variable (P : Program)

/-- What comes of a list of operations, whatever their places in the text. -/
def wpC (Q : Exit → Act → World → Prop) (cs : List Core) (a : Act) (w : World) : Prop :=
  ∀ (all : Array Oper) (pre : List Oper) (os : List Oper), all.toList = pre ++ mkOps cs os → wpList P all Q (mkOps cs os) a w

variable {P}
variable {Q : Exit → Act → World → Prop} {a : Act} {w w' : World} {cs : List Core} {c : Core}

theorem wp_reg {c0 : Code} (h : wpC P Q cs a w) : (reg cs c0).wp P Q a w :=
  wp_region_list (by simpa using h _ [] _ (by simp))

theorem wpC_nil (h : Q .normal a w) : wpC P Q [] a w := fun _ _ _ _ => wpList_nil h

theorem mkOps_cons (c : Core) (cs : List Core) (os : List Oper) : ∃ o os', mkOps (c :: cs) os = mkOp c o :: mkOps cs os' := by
  cases os with
  | nil => exact ⟨_, [], rfl⟩
  | cons o os => exact ⟨o, os, rfl⟩

/-- An operation comes to a value. -/
def Runs (P : Program) (a : Act) (w : World) (op : Op) (v : Value) (w' : World) : Prop :=
  ∀ o : Oper, o.op = op → (execOp a.eval o).run P w = .ok (.value v) w'

theorem wpC_val {dst : Option Tmp} {op : Op} {v : Value} (hr : Runs P a w op v w') (h : wpC P Q cs (a.put dst v) w') : wpC P Q (⟨dst, op, none⟩ :: cs) a w := by
  intro all pre os hall
  obtain ⟨o, os', e⟩ := mkOps_cons ⟨dst, op, none⟩ cs os
  rw [e] at hall ⊢
  refine wpList_plain rfl fun K hK => ?_
  show Oper.upon P _ a K Q _
  rw [hr (mkOp ⟨dst, op, none⟩ o) rfl]
  exact hK _ _ (h all (pre ++ [mkOp ⟨dst, op, none⟩ o]) os' (by simpa using hall))

/-- A store. -/
def RunsU (P : Program) (a : Act) (w : World) (op : Op) (w' : World) : Prop :=
  ∀ o : Oper, o.op = op → (execOp a.eval o).run P w = .ok .skip w'

theorem wpC_skip {op : Op} (hr : RunsU P a w op w') (h : wpC P Q cs a w') : wpC P Q (⟨none, op, none⟩ :: cs) a w := by
  intro all pre os hall
  obtain ⟨o, os', e⟩ := mkOps_cons ⟨none, op, none⟩ cs os
  rw [e] at hall ⊢
  refine wpList_plain rfl fun K hK => ?_
  show Oper.upon P _ a K Q _
  rw [hr (mkOp ⟨none, op, none⟩ o) rfl]
  exact hK _ _ (h all (pre ++ [mkOp ⟨none, op, none⟩ o]) os' (by simpa using hall))

/-- A function with a body. -/
def Plain (P : Program) (f : FuncId) : Prop := ∃ fn, P.funcs[f]? = some fn ∧ fn.body.isNone = false ∧ (fn.name == "runtime.NumGoroutine") = false

theorem Plain.run {f : FuncId} (h : Plain P f) (args : Array Value) (w : World) : (callFunc f args).run P w = .ok (.enter f args) w := by
  obtain ⟨fn, hf, hb, hn⟩ := h
  have hn' : ¬ fn.name = "runtime.NumGoroutine" := by simpa using hn
  have hb' : ¬ fn.body = none := by intro e; simp [e] at hb
  simp [callFunc, hf, hn', hb']

/-- A call of a Go function that returns. -/
theorem wpC_call {dst : Option Tmp} {f : FuncId} {args : Array Operand} {ats : Array TypeId} {R : Value → World → Prop} (hp : Plain P f)
    (hc : Calls P f (args.map a.eval) w fun e w' => ∃ v, e = .returned v ∧ R v w')
    (h : ∀ v w', R v w' → wpC P Q cs (a.put dst v) w') : wpC P Q (⟨dst, .call ⟨.value (.func f), args, ats⟩, none⟩ :: cs) a w := by
  intro all pre os hall
  obtain ⟨o, os', e⟩ := mkOps_cons ⟨dst, .call ⟨.value (.func f), args, ats⟩, none⟩ cs os
  rw [e] at hall ⊢
  refine wpList_plain rfl fun K hK => ?_
  show Oper.upon P _ a K Q _
  have hr : (execOp a.eval (mkOp ⟨dst, .call ⟨.value (.func f), args, ats⟩, none⟩ o)).run P w = .ok (.enter f (args.map a.eval)) w := by
    simp [execOp, mkOp, resolve, Act.eval, Deferred.ofValue, invoke, hp.run]
  rw [hr]
  show Calls P f (args.map a.eval) w _
  refine hc.mono ?_
  rintro _ w'' ⟨v, rfl, hR⟩
  exact hK _ _ (h v w'' hR all (pre ++ [mkOp ⟨dst, .call ⟨.value (.func f), args, ats⟩, none⟩ o]) os' (by simpa using hall))

theorem runs_move (x : Operand) : Runs P a w (.move x) (a.eval x) w := by intro o h; simp [execOp, h]
theorem runs_assign (x : Operand) : Runs P a w (.assign x) (a.eval x) w := by intro o h; simp [execOp, h]
theorem runs_nilCheck {x : Operand} {p : Addr} (hx : a.eval x = .pointer (some p)) : Runs P a w (.nilCheck x) (.pointer (some p)) w := by
  intro o h; simp [execOp, h, hx]

/-- The field i of the struct type T lies at offset k; it is of the type u, which has so many cells. -/
structure FieldAt (P : Program) (T i k u n : Nat) : Prop where
  ex : ∃ fs : Array Field, P.underlying T = some (.struct fs) ∧ ∃ f, fs[i]? = some f ∧ f.offset = k ∧ f.type = u
  sz : ∃ inf, P.info? u = some inf ∧ inf.size = n
  pos : 0 < n

theorem runs_fieldAddr {T i k u n : Nat} (hf : FieldAt P T i k u n) {x : Operand} {p : Addr} (hx : a.eval x = .pointer (some p)) :
    Runs P a w (.fieldAddr T x i) (.pointer (some (p.add k))) w := by
  intro o h
  obtain ⟨⟨fs, hT, f, hfi, hk, hu⟩, ⟨inf, hi, hn⟩, hp⟩ := hf
  have : inf.size ≠ 0 := by omega
  subst hk; subst hu
  simp [execOp, h, Instr.fieldAt, run_underlying hT, hfi, hx, Instr.sureAddr, fieldPlace, sizeOf, typeInfo, hi, this]

/-- A type of one cell, that is no struct and no array. -/
structure One (P : Program) (u : Nat) : Prop where
  desc : ∃ d, P.underlying u = some d ∧ (match d with | .struct _ | .array _ _ => false | _ => true) = true
  sz : ∃ inf, P.info? u = some inf ∧ inf.size = 1

theorem One.isAgg {u : Nat} (h : One P u) (w : World) : (isAgg u).run P w = .ok false w := by
  obtain ⟨⟨d, hd, hx⟩, _⟩ := h
  simp only [Go.isAgg, Sem.run_bind, run_underlying hd, Result.andThen]
  cases d <;> first | rfl | (simp at hx)

theorem One.size {u : Nat} (h : One P u) (w : World) : (sizeOf u).run P w = .ok 1 w := by
  obtain ⟨_, inf, hi, hs⟩ := h
  simp [sizeOf, typeInfo, hi, hs]

theorem runs_load {u : Nat} (hu : One P u) {x : Operand} {p : Addr} {v : Value} (hx : a.eval x = .pointer (some p)) (hv : w.cell? p = some v) :
    Runs P a w (.load u x) v w := by
  intro o h
  simp [execOp, h, Instr.loadAt, hx, Instr.sureAddr, loadVar, hu.isAgg, hv]

theorem runs_store {u : Nat} (hu : One P u) {x y : Operand} {p : Addr} {v old : Value} (hx : a.eval x = .pointer (some p)) (hy : a.eval y = v) (h1 : v.oneCell' = true)
    (hv : w.cell? p = some old) (hf : w.frozen? p = false) : RunsU P a w (.store u x y) (w.setCell p v) := by
  intro o h
  have hc : v.cells = #[v] := by cases v <;> first | rfl | (simp [Value.oneCell'] at h1)
  simp [execOp, h, Instr.storeAt, hx, hy, Instr.sureAddr, storeVar, hu.size, hc, storeCells, Addr.add_zero', run_store P w p v .plain h1, hv, hf]
end
end Go.Proofs.YtfimokbgggimmaaDoor.Kf
