/- One operation at a time, over any program and any slots: what an operation comes to, and how a list of operations is gone through. -/
import Derived.WalkKit
import Derived.WideLaws
import Derived.Test.YtpefipjgcpchaaaGreatDoorRPA
import Derived.MapKept
namespace Go.Proofs.YtpefipjgcpchaaaGreatDoorR.Kf
set_option linter.unusedVariables false
set_option linter.unusedSimpArgs false
open Go Go.RowKit

/-- What a slot holds. -/
def gt (a : Act) (j : Nat) : Value := a.tmps.getD j undef

theorem gt_put {a : Act} {d : Nat} {v : Value} (h : d < a.tmps.size) (j : Nat) : gt (a.put (some d) v) j = if j = d then v else gt a j := by
  simp only [gt, Act.put, Array.getD_eq_getD_getElem?, Array.getElem?_setIfInBounds]
  by_cases hj : j = d
  · subst hj; simp [h]
  · rw [if_neg hj, if_neg (fun e => hj e.symm)]

theorem size_put (a : Act) (o : Option Tmp) (v : Value) : (a.put o v).tmps.size = a.tmps.size := by
  cases o <;> simp [Act.put]
theorem defers_put (a : Act) (o : Option Tmp) (v : Value) : (a.put o v).defers = a.defers := by
  cases o <;> rfl
theorem put_none (a : Act) (v : Value) : a.put none v = a := rfl

/-- Outside S the slots are as they were. -/
structure Ag (S : Nat → Prop) (a a' : Act) : Prop where
  size : a'.tmps.size = a.tmps.size
  defers : a'.defers = a.defers
  keep : ∀ j, ¬ S j → gt a' j = gt a j

theorem Ag.refl (S : Nat → Prop) (a : Act) : Ag S a a := ⟨rfl, rfl, fun _ _ => rfl⟩
theorem Ag.trans {S : Nat → Prop} {a b c : Act} (h : Ag S a b) (k : Ag S b c) : Ag S a c :=
  ⟨k.size.trans h.size, k.defers.trans h.defers, fun j hj => (k.keep j hj).trans (h.keep j hj)⟩
theorem Ag.mono {S S' : Nat → Prop} {a b : Act} (h : Ag S a b) (hs : ∀ j, S j → S' j) : Ag S' a b :=
  ⟨h.size, h.defers, fun j hj => h.keep j (fun x => hj (hs j x))⟩
theorem Ag.put {S : Nat → Prop} {a b : Act} (h : Ag S a b) {d : Nat} (hd : S d) (hs : d < b.tmps.size) (v : Value) : Ag S a (b.put (some d) v) :=
  ⟨(size_put _ _ _).trans h.size, (defers_put _ _ _).trans h.defers, fun j hj => by
    rw [gt_put hs, if_neg (by intro e; subst e; exact hj hd)]; exact h.keep j hj⟩

/-! ### a region out of what matters of its operations, the rest (places in the text, edges, types) as another region has it -/

structure Core where
  dst : Option Tmp
  op : Op
  guard : Option (Nat × Bool) := none

def mkOp (c : Core) (o : Oper) : Oper := ⟨c.dst, c.op, o.type, o.pos, o.after, c.guard⟩

def mkOps : List Core → List Oper → List Oper
  | [], _ => []
  | c :: cs, [] => mkOp c default :: mkOps cs []
  | c :: cs, o :: os => mkOp c o :: mkOps cs os

def Code.ops0 : Code → List Oper
  | .region _ ops _ => ops.toList
  | _ => []
def Code.id0 : Code → Nat
  | .region id _ _ => id
  | .block id _ => id
  | _ => 0
def Code.fst : Code → Code
  | .seq a _ => a
  | .cond _ a _ => a
  | .block _ a => a
  | .loop a => a
  | .scope a => a
  | _ => .skip
def Code.snd : Code → Code
  | .seq _ b => b
  | .cond _ _ b => b
  | _ => .skip

/-- The part of a code at a path: 0: the first, 1: the second. -/
def pc : Code → List Nat → Code
  | c, [] => c
  | c, 0 :: p => pc (Code.fst c) p
  | c, _ :: p => pc (Code.snd c) p

def reg (cs : List Core) (c0 : Code) : Code := .region (Code.id0 c0) (mkOps cs (Code.ops0 c0)).toArray false

section
variable (P : Program)

/-- What comes of a list of operations, whatever their places in the text. -/
def wpC (Q : Exit → Act → World → Prop) (cs : List Core) (a : Act) (w : World) : Prop :=
  ∀ (all : Array Oper) (pre : List Oper) (os : List Oper), all.toList = pre ++ mkOps cs os → wpList P all Q (mkOps cs os) a w

variable {P}
variable {Q : Exit → Act → World → Prop} {a : Act} {w w' : World} {cs : List Core} {c : Core}

theorem wp_reg {c0 : Code} (h : wpC P Q cs a w) : (reg cs c0).wp P Q a w :=
  wp_region_list (by simpa using h _ [] _ (by simp))

theorem wpC_nil (h : Q .normal a w) : wpC P Q [] a w := fun _ _ _ _ => wpList_nil h

theorem mkOps_cons (c : Core) (cs : List Core) (os : List Oper) : ∃ o os', mkOps (c :: cs) os = mkOp c o :: mkOps cs os' := by
  cases os with
  | nil => exact ⟨_, [], rfl⟩
  | cons o os => exact ⟨o, os, rfl⟩

/-- An operation comes to a value. -/
def Runs (P : Program) (a : Act) (w : World) (op : Op) (v : Value) (w' : World) : Prop :=
  ∀ o : Oper, o.op = op → (execOp a.eval o).run P w = .ok (.value v) w'

theorem wpC_val {dst : Option Tmp} {op : Op} {v : Value} (hr : Runs P a w op v w') (h : wpC P Q cs (a.put dst v) w') : wpC P Q (⟨dst, op, none⟩ :: cs) a w := by
  intro all pre os hall
  obtain ⟨o, os', e⟩ := mkOps_cons ⟨dst, op, none⟩ cs os
  rw [e] at hall ⊢
  refine wpList_plain rfl fun K hK => ?_
  show Oper.upon P _ a K Q _
  rw [hr (mkOp ⟨dst, op, none⟩ o) rfl]
  exact hK _ _ (h all (pre ++ [mkOp ⟨dst, op, none⟩ o]) os' (by simpa using hall))

/-- A store. -/
def RunsU (P : Program) (a : Act) (w : World) (op : Op) (w' : World) : Prop :=
  ∀ o : Oper, o.op = op → (execOp a.eval o).run P w = .ok .skip w'

theorem wpC_skip {op : Op} (hr : RunsU P a w op w') (h : wpC P Q cs a w') : wpC P Q (⟨none, op, none⟩ :: cs) a w := by
  intro all pre os hall
  obtain ⟨o, os', e⟩ := mkOps_cons ⟨none, op, none⟩ cs os
  rw [e] at hall ⊢
  refine wpList_plain rfl fun K hK => ?_
  show Oper.upon P _ a K Q _
  rw [hr (mkOp ⟨none, op, none⟩ o) rfl]
  exact hK _ _ (h all (pre ++ [mkOp ⟨none, op, none⟩ o]) os' (by simpa using hall))

/-- A function with a body. -/
def Plain (P : Program) (f : FuncId) : Prop := ∃ fn, P.funcs[f]? = some fn ∧ fn.body.isNone = false ∧ (fn.name == "runtime.NumGoroutine") = false

theorem Plain.run {f : FuncId} (h : Plain P f) (args : Array Value) (w : World) : (callFunc f args).run P w = .ok (.enter f args) w := by
  obtain ⟨fn, hf, hb, hn⟩ := h
  have hn' : ¬ fn.name = "runtime.NumGoroutine" := by simpa using hn
  have hb' : ¬ fn.body = none := by intro e; simp [e] at hb
  simp [callFunc, hf, hn', hb']

/-- A call of a Go function that returns. -/
theorem wpC_call {dst : Option Tmp} {f : FuncId} {args : Array Operand} {ats : Array TypeId} {R : Value → World → Prop} (hp : Plain P f)
    (hc : Calls P f (args.map a.eval) w fun e w' => ∃ v, e = .returned v ∧ R v w')
    (h : ∀ v w', R v w' → wpC P Q cs (a.put dst v) w') : wpC P Q (⟨dst, .call ⟨.value (.func f), args, ats⟩, none⟩ :: cs) a w := by
  intro all pre os hall
  obtain ⟨o, os', e⟩ := mkOps_cons ⟨dst, .call ⟨.value (.func f), args, ats⟩, none⟩ cs os
  rw [e] at hall ⊢
  refine wpList_plain rfl fun K hK => ?_
  show Oper.upon P _ a K Q _
  have hr : (execOp a.eval (mkOp ⟨dst, .call ⟨.value (.func f), args, ats⟩, none⟩ o)).run P w = .ok (.enter f (args.map a.eval)) w := by
    simp [execOp, mkOp, resolve, Act.eval, Deferred.ofValue, invoke, hp.run]
  rw [hr]
  show Calls P f (args.map a.eval) w _
  refine hc.mono ?_
  rintro _ w'' ⟨v, rfl, hR⟩
  exact hK _ _ (h v w'' hR all (pre ++ [mkOp ⟨dst, .call ⟨.value (.func f), args, ats⟩, none⟩ o]) os' (by simpa using hall))

theorem runs_move (x : Operand) : Runs P a w (.move x) (a.eval x) w := by intro o h; simp [execOp, h]
theorem runs_assign (x : Operand) : Runs P a w (.assign x) (a.eval x) w := by intro o h; simp [execOp, h]
theorem runs_nilCheck {x : Operand} {p : Addr} (hx : a.eval x = .pointer (some p)) : Runs P a w (.nilCheck x) (.pointer (some p)) w := by
  intro o h; simp [execOp, h, hx]

/-- The field i of the struct type T lies at offset k; it is of the type u, which has so many cells. -/
structure FieldAt (P : Program) (T i k u n : Nat) : Prop where
  ex : ∃ fs : Array Field, P.underlying T = some (.struct fs) ∧ ∃ f, fs[i]? = some f ∧ f.offset = k ∧ f.type = u
  sz : ∃ inf, P.info? u = some inf ∧ inf.size = n
  pos : 0 < n

theorem runs_fieldAddr {T i k u n : Nat} (hf : FieldAt P T i k u n) {x : Operand} {p : Addr} (hx : a.eval x = .pointer (some p)) :
    Runs P a w (.fieldAddr T x i) (.pointer (some (p.add k))) w := by
  intro o h
  obtain ⟨⟨fs, hT, f, hfi, hk, hu⟩, ⟨inf, hi, hn⟩, hp⟩ := hf
  have : inf.size ≠ 0 := by omega
  subst hk; subst hu
  simp [execOp, h, Instr.fieldAt, run_underlying hT, hfi, hx, Instr.sureAddr, fieldPlace, sizeOf, typeInfo, hi, this]

/-- A type of one cell, that is no struct and no array. -/
structure One (P : Program) (u : Nat) : Prop where
  desc : ∃ d, P.underlying u = some d ∧ (match d with | .struct _ | .array _ _ => false | _ => true) = true
  sz : ∃ inf, P.info? u = some inf ∧ inf.size = 1

theorem One.isAgg {u : Nat} (h : One P u) (w : World) : (isAgg u).run P w = .ok false w := by
  obtain ⟨⟨d, hd, hx⟩, _⟩ := h
  simp only [Go.isAgg, Sem.run_bind, run_underlying hd, Result.andThen]
  cases d <;> first | rfl | (simp at hx)

theorem One.size {u : Nat} (h : One P u) (w : World) : (sizeOf u).run P w = .ok 1 w := by
  obtain ⟨_, inf, hi, hs⟩ := h
  simp [sizeOf, typeInfo, hi, hs]

theorem runs_load {u : Nat} (hu : One P u) {x : Operand} {p : Addr} {v : Value} (hx : a.eval x = .pointer (some p)) (hv : w.cell? p = some v) :
    Runs P a w (.load u x) v w := by
  intro o h
  simp [execOp, h, Instr.loadAt, hx, Instr.sureAddr, loadVar, hu.isAgg, hv]

theorem runs_store {u : Nat} (hu : One P u) {x y : Operand} {p : Addr} {v old : Value} (hx : a.eval x = .pointer (some p)) (hy : a.eval y = v) (h1 : v.oneCell' = true)
    (hv : w.cell? p = some old) (hf : w.frozen? p = false) : RunsU P a w (.store u x y) (w.setCell p v) := by
  intro o h
  have hc : v.cells = #[v] := by cases v <;> first | rfl | (simp [Value.oneCell'] at h1)
  simp [execOp, h, Instr.storeAt, hx, hy, Instr.sureAddr, storeVar, hu.size, hc, storeCells, Addr.add_zero', run_store P w p v .plain h1, hv, hf]
end
end Go.Proofs.YtpefipjgcpchaaaGreatDoorR.Kf

namespace Go.Proofs.YtpefipjgcpchaaaGreatDoorR.Kf
set_option linter.unusedVariables false
set_option linter.unusedSimpArgs false
open Go Go.RowKit

/-- A form with its places in memory. -/
inductive M
  | unit
  | fld (o : Nat) (m rest : M)
  | tags
  | prim (p : Prim)
  | str (c nl : Bool)
  | byt (c nl : Bool)
  | arr (c nl nr : Bool) (sz : Nat) (e : M)
  | opt (sz : Nat) (e : M)
  | pstr (c : Bool)
  deriving DecidableEq

def M.w : M → W
  | .unit => .unit
  | .fld _ m r => .pair m.w r.w
  | .tags => .tags
  | .prim p => .prim p
  | .str c nl => .str c nl
  | .byt c nl => .byt c nl
  | .arr c nl nr _ e => .arr c nl nr e.w
  | .opt _ e => .opt e.w
  | .pstr c => .str c false

/-- How many cells, from its place on. -/
def M.cells : M → Nat
  | .unit => 0
  | .fld o m r => max (o + m.cells) r.cells
  | .prim .uuid => 16
  | _ => 1

def u8v (b : UInt8) : Value := .int .u8 b.toNat
def strV (s : List UInt8) : Value := .string ⟨s.toArray⟩

/-- A number of a kind in its cell. -/
def primV : Prim → Int → Value
  | .bool, n => .bool (n != 0)
  | .i8, n => .int .i8 n
  | .i16, n => .int .i16 n
  | .i32, n => .int .i32 n
  | .i64, n => .int .i64 n
  | .u16, n => .int .u16 n
  | .f64, n => .float .f64 n.toNat
  | .uuid, _ => .bool false

/-- A slice of octets in the block D (nn: it is not nil). -/
def Sp (w : World) (D : Nat) (nn : Bool) (v : Value) (bs : List UInt8) : Prop :=
  (nn = false ∧ v = .slice none 0 0 ∧ bs = []) ∨
  (nn = true ∧ ∃ o c, v = .slice (some ⟨D, o, none⟩) bs.length c ∧ bs.length ≤ c ∧ ∀ j b, bs[j]? = some b → w.cell? ⟨D, o + j, none⟩ = some (u8v b))

theorem Sp.keep {w w' : World} {D : Nat} {nn : Bool} {v : Value} {bs : List UInt8} (h : Sp w D nn v bs) (hD : w'.heap[D]? = w.heap[D]?) : Sp w' D nn v bs := by
  rcases h with h | ⟨h0, o, c, h1, h2, h3⟩
  · exact .inl h
  · exact .inr ⟨h0, o, c, h1, h2, fun j b hb => (World.cell?_of_block (w := w) hD).trans (h3 j b hb)⟩

/-- A map of tags: its entries, in whatever order. -/
def MapAt (w : World) (D r : Nat) (l : List (Nat × List UInt8)) : Prop :=
  ∃ (es : Array MapEntry) (clock : Nat), w.heap[r]? = some (.map es clock) ∧ MapKept.Stamped es clock ∧ ∃ p : List (Nat × List UInt8), p.Perm l ∧ es.toList.length = p.length ∧
    (∀ (j : Nat) (e : MapEntry) (x : Nat × List UInt8), es.toList[j]? = some e → p[j]? = some x → e.key = .int .u32 x.1 ∧ ∃ nn, Sp w D nn e.val x.2)

theorem MapAt.keep {w w' : World} {D r : Nat} {l : List (Nat × List UInt8)} (h : MapAt w D r l) (hD : w'.heap[D]? = w.heap[D]?) (hr : w'.heap[r]? = w.heap[r]?) : MapAt w' D r l := by
  obtain ⟨es, clock, h1, h0, p, h2, h3, h4⟩ := h
  exact ⟨es, clock, hr.trans h1, h0, p, h2, h3, fun j e x he hx => let ⟨a, nn, c⟩ := h4 j e x he hx; ⟨a, nn, c.keep hD⟩⟩

/-- Cells in a row. -/
def Cells (w : World) (b off : Nat) (cs : List Value) : Prop := ∀ j v, cs[j]? = some v → w.cell? ⟨b, off + j, none⟩ = some v

def LPrim (p : Prim) (cs : List Value) (x : Val) : Prop :=
  (p ≠ .uuid ∧ ∃ n, x = .int n ∧ p.lo ≤ n ∧ n < p.hi ∧ cs = [primV p n]) ∨ (p = .uuid ∧ ∃ s : List UInt8, s.length = 16 ∧ x = .bytes (some s) ∧ cs = s.map u8v)
def LStr (nl : Bool) (w : World) (lo hi : Nat) (cs : List Value) (x : Val) : Prop :=
  (nl = false ∧ ∃ s : List UInt8, x = .bytes (some s) ∧ cs = [strV s]) ∨
  (nl = true ∧ ((x = .bytes none ∧ cs = [.pointer none]) ∨ ∃ (s : List UInt8) (b : Nat), x = .bytes (some s) ∧ cs = [.pointer (some ⟨b, 0, none⟩)] ∧ lo ≤ b ∧ b < hi ∧ w.cell? ⟨b, 0, none⟩ = some (strV s)))
def LByt (D : Nat) (nl : Bool) (w : World) (cs : List Value) (x : Val) : Prop :=
  (nl = true ∧ x = .bytes none ∧ cs = [.slice none 0 0]) ∨
  (nl = false ∧ x = .bytes (some []) ∧ ∃ p, cs = [.slice p 0 0]) ∨
  ∃ (s : List UInt8) (v : Value), x = .bytes (some s) ∧ cs = [v] ∧ Sp w D true v s
def LTags (D : Nat) (w : World) (lo hi : Nat) (cs : List Value) (x : Val) : Prop :=
  ∃ l : List (Nat × List UInt8), x = .tags l ∧ ((l = [] ∧ cs = [.map none]) ∨ ∃ r, cs = [.map (some r)] ∧ lo ≤ r ∧ r < hi ∧ MapAt w D r l)
def LArr (H : World → Nat → Nat → Nat → Nat → Val → Prop) (nl : Bool) (sz : Nat) (w : World) (lo hi : Nat) (cs : List Value) (x : Val) : Prop :=
  (nl = true ∧ x = .list none ∧ cs = [.slice none 0 0]) ∨
  (nl = false ∧ x = .list (some []) ∧ cs = [.slice none 0 0]) ∨
  ∃ (l : List Val) (A c : Nat), x = .list (some l) ∧ cs = [.slice (some ⟨A, 0, none⟩) l.length c] ∧ lo ≤ A ∧ A < hi ∧
    ∃ f : Nat → Nat × Nat, ∀ j v, l[j]? = some v → A < (f j).1 ∧ (f j).2 ≤ hi ∧ H w (f j).1 (f j).2 A (j * sz) v
def LOpt (H : World → Nat → Nat → Nat → Nat → Val → Prop) (w : World) (lo hi : Nat) (cs : List Value) (x : Val) : Prop :=
  (x = .opt none ∧ cs = [.pointer none]) ∨ ∃ (v : Val) (b : Nat), x = .opt (some v) ∧ cs = [.pointer (some ⟨b, 0, none⟩)] ∧ lo ≤ b ∧ b < hi ∧ H w (b + 1) hi b 0 v

/-- A text behind a pointer; none is an empty one. -/
def LPst (w : World) (lo hi : Nat) (cs : List Value) (x : Val) : Prop :=
  (x = .bytes (some []) ∧ cs = [.pointer none]) ∨ ∃ (s : List UInt8) (b : Nat), x = .bytes (some s) ∧ cs = [.pointer (some ⟨b, 0, none⟩)] ∧ lo ≤ b ∧ b < hi ∧ w.cell? ⟨b, 0, none⟩ = some (strV s)

/-- A form at a place; its further blocks lie from lo on and below hi. -/
def Holds (D : Nat) : M → World → Nat → Nat → Nat → Nat → Val → Prop
  | .unit, _, lo, hi, _, _, x => x = .unit ∧ lo ≤ hi
  | .fld o m r, w, lo, hi, b, off, x => ∃ mid y z, x = .pair y z ∧ Holds D m w lo mid b (off + o) y ∧ Holds D r w mid hi b off z
  | .tags, w, lo, hi, b, off, x => lo ≤ hi ∧ ∃ cs, Cells w b off cs ∧ LTags D w lo hi cs x
  | .prim p, w, lo, hi, b, off, x => lo ≤ hi ∧ ∃ cs, Cells w b off cs ∧ LPrim p cs x
  | .str _ nl, w, lo, hi, b, off, x => lo ≤ hi ∧ ∃ cs, Cells w b off cs ∧ LStr nl w lo hi cs x
  | .byt _ nl, w, lo, hi, b, off, x => lo ≤ hi ∧ ∃ cs, Cells w b off cs ∧ LByt D nl w cs x
  | .arr _ nl _ sz e, w, lo, hi, b, off, x => lo ≤ hi ∧ ∃ cs, Cells w b off cs ∧ LArr (Holds D e) nl sz w lo hi cs x
  | .opt _ e, w, lo, hi, b, off, x => lo ≤ hi ∧ ∃ cs, Cells w b off cs ∧ LOpt (Holds D e) w lo hi cs x
  | .pstr _, w, lo, hi, b, off, x => lo ≤ hi ∧ ∃ cs, Cells w b off cs ∧ LPst w lo hi cs x

theorem Holds.le {D : Nat} : ∀ {m : M} {w : World} {lo hi b off : Nat} {x : Val}, Holds D m w lo hi b off x → lo ≤ hi := by
  intro m
  induction m with
  | fld o m r ihm ihr =>
    intro w lo hi b off x h
    obtain ⟨mid, y, z, _, h1, h2⟩ := h
    exact Nat.le_trans (ihm h1) (ihr h2)
  | unit => intro w lo hi b off x h; exact h.2
  | _ => intro w lo hi b off x h; exact h.1

theorem Cells.keep {w w' : World} {b off n : Nat} {cs : List Value} (h : Cells w b off cs) (hn : cs.length ≤ n) (hc : ∀ j, j < n → w'.cell? ⟨b, off + j, none⟩ = w.cell? ⟨b, off + j, none⟩) : Cells w' b off cs :=
  fun j v hv => (hc j (by have := (List.getElem?_eq_some_iff.1 hv).1; omega)).trans (h j v hv)

/-- What lies there stays: where its further blocks, the block of the octets and its own cells are as they were. -/
theorem Holds.keep {D : Nat} : ∀ {m : M} {w w' : World} {lo hi b off : Nat} {x : Val}, Holds D m w lo hi b off x → w'.heap[D]? = w.heap[D]? →
    (∀ k, lo ≤ k → k < hi → w'.heap[k]? = w.heap[k]?) → (∀ j, j < m.cells → w'.cell? ⟨b, off + j, none⟩ = w.cell? ⟨b, off + j, none⟩) → Holds D m w' lo hi b off x := by
  intro m
  induction m with
  | unit => intro w w' lo hi b off x h _ _ _; exact h
  | fld o m r ihm ihr =>
    intro w w' lo hi b off x h hD hk hc
    obtain ⟨mid, y, z, hx, h1, h2⟩ := h
    have l1 := h1.le
    have l2 := h2.le
    refine ⟨mid, y, z, hx, ihm h1 hD (fun k a b => hk k a (by omega)) ?_, ihr h2 hD (fun k a b => hk k (by omega) b) ?_⟩
    · intro j hj
      have := hc (o + j) (by simp only [M.cells]; omega)
      rwa [← Nat.add_assoc] at this
    · intro j hj
      exact hc j (by simp only [M.cells]; omega)
  | tags =>
    intro w w' lo hi b off x h hD hk hc
    obtain ⟨l0, cs, h1, l, hx, h2⟩ := h
    refine ⟨l0, cs, h1.keep (n := 1) ?_ hc, l, hx, ?_⟩
    · rcases h2 with ⟨_, rfl⟩ | ⟨r, rfl, _⟩ <;> simp
    · rcases h2 with h2 | ⟨r, h3, h4, h5, h6⟩
      · exact .inl h2
      · exact .inr ⟨r, h3, h4, h5, h6.keep hD (hk r h4 h5)⟩
  | prim p =>
    intro w w' lo hi b off x h hD hk hc
    obtain ⟨l0, cs, h1, h2⟩ := h
    refine ⟨l0, cs, h1.keep (n := (M.prim p).cells) ?_ hc, h2⟩
    rcases h2 with ⟨hp, n, _, _, _, rfl⟩ | ⟨rfl, s, hs, _, rfl⟩
    · cases p <;> simp [M.cells]
    · simp [M.cells, hs]
  | str c nl =>
    intro w w' lo hi b off x h hD hk hc
    obtain ⟨l0, cs, h1, h2⟩ := h
    refine ⟨l0, cs, h1.keep (n := 1) ?_ hc, ?_⟩
    · rcases h2 with ⟨_, s, _, rfl⟩ | ⟨_, ⟨_, rfl⟩ | ⟨s, q, _, rfl, _⟩⟩ <;> simp
    · rcases h2 with h2 | ⟨h3, h2 | ⟨s, q, h4, h5, h6, h7, h8⟩⟩
      · exact .inl h2
      · exact .inr ⟨h3, .inl h2⟩
      · exact .inr ⟨h3, .inr ⟨s, q, h4, h5, h6, h7, (World.cell?_of_block (w := w) (hk q h6 h7)).trans h8⟩⟩
  | byt c nl =>
    intro w w' lo hi b off x h hD hk hc
    obtain ⟨l0, cs, h1, h2⟩ := h
    refine ⟨l0, cs, h1.keep (n := 1) ?_ hc, ?_⟩
    · rcases h2 with ⟨_, _, rfl⟩ | ⟨_, _, p, rfl⟩ | ⟨s, v, _, rfl, _⟩ <;> simp
    · rcases h2 with h2 | h2 | ⟨s, v, h3, h4, h5⟩
      · exact .inl h2
      · exact .inr (.inl h2)
      · exact .inr (.inr ⟨s, v, h3, h4, h5.keep hD⟩)
  | arr c nl nr sz e ih =>
    intro w w' lo hi b off x h hD hk hc
    obtain ⟨l0, cs, h1, h2⟩ := h
    refine ⟨l0, cs, h1.keep (n := 1) ?_ hc, ?_⟩
    · rcases h2 with ⟨_, _, rfl⟩ | ⟨_, _, rfl⟩ | ⟨l, A, c, _, rfl, _⟩ <;> simp
    · rcases h2 with h2 | h2 | ⟨l, A, c, h3, h4, h5, h6, f, h7⟩
      · exact .inl h2
      · exact .inr (.inl h2)
      · refine .inr (.inr ⟨l, A, c, h3, h4, h5, h6, f, fun j v hv => ?_⟩)
        obtain ⟨a1, a2, a3⟩ := h7 j v hv
        exact ⟨a1, a2, ih a3 hD (fun k p q => hk k (by omega) (by omega)) (fun i _ => World.cell?_of_block (w := w) (hk A h5 h6))⟩
  | pstr c =>
    intro w w' lo hi b off x h hD hk hc
    obtain ⟨l0, cs, h1, h2⟩ := h
    refine ⟨l0, cs, h1.keep (n := 1) ?_ hc, ?_⟩
    · rcases h2 with ⟨_, rfl⟩ | ⟨s, q, _, rfl, _⟩ <;> simp
    · rcases h2 with h2 | ⟨s, q, h4, h5, h6, h7, h8⟩
      · exact .inl h2
      · exact .inr ⟨s, q, h4, h5, h6, h7, (World.cell?_of_block (w := w) (hk q h6 h7)).trans h8⟩
  | opt sz e ih =>
    intro w w' lo hi b off x h hD hk hc
    obtain ⟨l0, cs, h1, h2⟩ := h
    refine ⟨l0, cs, h1.keep (n := 1) ?_ hc, ?_⟩
    · rcases h2 with ⟨_, rfl⟩ | ⟨v, q, _, rfl, _⟩ <;> simp
    · rcases h2 with h2 | ⟨v, q, h3, h4, h5, h6, h7⟩
      · exact .inl h2
      · exact .inr ⟨v, q, h3, h4, h5, h6, ih h7 hD (fun k p r => hk k (by omega) r) (fun i _ => World.cell?_of_block (w := w) (hk q h5 h6))⟩

/-- More room for the further blocks. -/
theorem Holds.wider {D : Nat} : ∀ {m : M} {w : World} {lo hi lo' hi' b off : Nat} {x : Val}, Holds D m w lo hi b off x → lo' ≤ lo → hi ≤ hi' → Holds D m w lo' hi' b off x := by
  intro m
  induction m with
  | unit => intro w lo hi lo' hi' b off x h h1 h2; exact ⟨h.1, by have := h.2; omega⟩
  | fld o m r ihm ihr =>
    intro w lo hi lo' hi' b off x h h1 h2
    obtain ⟨mid, y, z, hx, a, b⟩ := h
    exact ⟨mid, y, z, hx, ihm a h1 (Nat.le_refl _), ihr b (Nat.le_refl _) h2⟩
  | tags =>
    intro w lo hi lo' hi' b off x h h1 h2
    obtain ⟨l0, cs, a, l, hx, c⟩ := h
    refine ⟨by omega, cs, a, l, hx, ?_⟩
    rcases c with c | ⟨r, c1, c2, c3, c4⟩
    · exact .inl c
    · exact .inr ⟨r, c1, by omega, by omega, c4⟩
  | prim p => intro w lo hi lo' hi' b off x h h1 h2; exact ⟨by have := h.1; omega, h.2⟩
  | str c nl =>
    intro w lo hi lo' hi' b off x h h1 h2
    obtain ⟨l0, cs, a, c⟩ := h
    refine ⟨by omega, cs, a, ?_⟩
    rcases c with c | ⟨c0, c | ⟨s, q, c1, c2, c3, c4, c5⟩⟩
    · exact .inl c
    · exact .inr ⟨c0, .inl c⟩
    · exact .inr ⟨c0, .inr ⟨s, q, c1, c2, by omega, by omega, c5⟩⟩
  | byt c nl => intro w lo hi lo' hi' b off x h h1 h2; exact ⟨by have := h.1; omega, h.2⟩
  | arr c nl nr sz e ih =>
    intro w lo hi lo' hi' b off x h h1 h2
    obtain ⟨l0, cs, a, c⟩ := h
    refine ⟨by omega, cs, a, ?_⟩
    rcases c with c | c | ⟨l, A, c, c1, c2, c3, c4, f, c5⟩
    · exact .inl c
    · exact .inr (.inl c)
    · exact .inr (.inr ⟨l, A, c, c1, c2, by omega, by omega, f, fun j v hv => by obtain ⟨d1, d2, d3⟩ := c5 j v hv; exact ⟨d1, by omega, d3⟩⟩)
  | pstr c =>
    intro w lo hi lo' hi' b off x h h1 h2
    obtain ⟨l0, cs, a, c⟩ := h
    refine ⟨by omega, cs, a, ?_⟩
    rcases c with c | ⟨s, q, c1, c2, c3, c4, c5⟩
    · exact .inl c
    · exact .inr ⟨s, q, c1, c2, by omega, by omega, c5⟩
  | opt sz e ih =>
    intro w lo hi lo' hi' b off x h h1 h2
    obtain ⟨l0, cs, a, c⟩ := h
    refine ⟨by omega, cs, a, ?_⟩
    rcases c with c | ⟨v, q, c1, c2, c3, c4, c5⟩
    · exact .inl c
    · exact .inr ⟨v, q, c1, c2, by omega, by omega, ih c5 (Nat.le_refl _) h2⟩

/-! ### what a step may change -/

/-- Blocks outside S are as they were. -/
structure Only (S : Nat → Prop) (w w' : World) : Prop where
  os : w'.os = w.os
  tape : w'.tape = w.tape
  output : w'.output = w.output
  size : w.heap.size ≤ w'.heap.size
  block : ∀ k, k < w.heap.size → ¬ S k → w'.heap[k]? = w.heap[k]?

theorem Only.refl (S : Nat → Prop) (w : World) : Only S w w := ⟨rfl, rfl, rfl, Nat.le_refl _, fun _ _ _ => rfl⟩
theorem Only.trans {S : Nat → Prop} {a b c : World} (h : Only S a b) (k : Only S b c) : Only S a c :=
  ⟨k.os.trans h.os, k.tape.trans h.tape, k.output.trans h.output, Nat.le_trans h.size k.size, fun i hi hs => (k.block i (Nat.lt_of_lt_of_le hi h.size) hs).trans (h.block i hi hs)⟩
theorem Only.mono {S T : Nat → Prop} {a b : World} (h : Only S a b) (hs : ∀ k, k < a.heap.size → S k → T k) : Only T a b :=
  ⟨h.os, h.tape, h.output, h.size, fun k hk ht => h.block k hk (fun x => ht (hs k hk x))⟩
theorem Only.of_below {S : Nat → Prop} {w w' w'' : World} (h : Only S w w') (hb : Below w'.heap.size w' w'') : Only S w w'' :=
  ⟨hb.os.trans h.os, hb.tape.trans h.tape, hb.output.trans h.output, Nat.le_trans h.size hb.size, fun k hk hs => (hb.block k (Nat.lt_of_lt_of_le hk h.size)).trans (h.block k hk hs)⟩
theorem Only.below {B : Nat} {a b : World} (h : Only (fun k => B ≤ k) a b) (hB : B ≤ a.heap.size) : Below B a b :=
  ⟨h.os, h.tape, h.output, h.size, fun k hk => h.block k (by omega) (by omega)⟩

/-- A block of cells that may be written. -/
def Blk (w : World) (b : Nat) (n : Nat) : Prop := ∃ cur e, w.heap[b]? = some (.cells cur e (0, 0)) ∧ cur.size = n

theorem Blk.lt {w : World} {b n : Nat} (h : Blk w b n) : b < w.heap.size := by
  obtain ⟨cur, e, h, _⟩ := h
  exact (Array.getElem?_eq_some_iff.1 h).1

/-- Of a block of cells those from lo on and below hi may have changed, no other. -/
def Upd (b lo hi : Nat) (w w' : World) : Prop :=
  ∀ cur e, w.heap[b]? = some (.cells cur e (0, 0)) → ∃ cur' : Array Value, w'.heap[b]? = some (.cells cur' e (0, 0)) ∧ cur'.size = cur.size ∧ ∀ j, j < lo ∨ hi ≤ j → cur'[j]? = cur[j]?

theorem Upd.same {b lo hi : Nat} {w w' : World} (h : w'.heap[b]? = w.heap[b]?) : Upd b lo hi w w' :=
  fun cur e hc => ⟨cur, h.trans hc, rfl, fun _ _ => rfl⟩
theorem Upd.trans {b lo hi : Nat} {u v w : World} (h : Upd b lo hi u v) (k : Upd b lo hi v w) : Upd b lo hi u w := by
  intro cur e hc
  obtain ⟨c1, h1, s1, k1⟩ := h cur e hc
  obtain ⟨c2, h2, s2, k2⟩ := k c1 e h1
  exact ⟨c2, h2, s2.trans s1, fun j hj => (k2 j hj).trans (k1 j hj)⟩
theorem Upd.mono {b lo hi lo' hi' : Nat} {w w' : World} (h : Upd b lo hi w w') (h1 : lo' ≤ lo) (h2 : hi ≤ hi') : Upd b lo' hi' w w' := by
  intro cur e hc
  obtain ⟨c1, h3, s1, k1⟩ := h cur e hc
  exact ⟨c1, h3, s1, fun j hj => k1 j (by omega)⟩
theorem Upd.blk {b lo hi n : Nat} {w w' : World} (h : Upd b lo hi w w') (hb : Blk w b n) : Blk w' b n := by
  obtain ⟨cur, e, h1, h2⟩ := hb
  obtain ⟨c, h3, h4, _⟩ := h cur e h1
  exact ⟨c, e, h3, h4.trans h2⟩
theorem Upd.cell {b lo hi n j : Nat} {w w' : World} (h : Upd b lo hi w w') (hb : Blk w b n) (hj : j < lo ∨ hi ≤ j) : w'.cell? ⟨b, j, none⟩ = w.cell? ⟨b, j, none⟩ := by
  obtain ⟨cur, e, h1, h2⟩ := hb
  obtain ⟨c, h3, h4, h5⟩ := h cur e h1
  simp only [World.cell?, h1, h3]
  simpa using h5 j hj

theorem Blk.cell {w : World} {b n j : Nat} (h : Blk w b n) (hj : j < n) : ∃ v, w.cell? ⟨b, j, none⟩ = some v := by
  obtain ⟨cur, e, h1, rfl⟩ := h
  simp [World.cell?, h1, Array.getElem?_eq_getElem hj]
theorem Blk.free {w : World} {b n j : Nat} (h : Blk w b n) : w.frozen? ⟨b, j, none⟩ = false := by
  obtain ⟨cur, e, h1, h2⟩ := h
  simp [World.frozen?, h1]
theorem Blk.keep {w w' : World} {b n : Nat} (h : Blk w b n) (hk : w'.heap[b]? = w.heap[b]?) : Blk w' b n := by
  obtain ⟨cur, e, h1, h2⟩ := h
  exact ⟨cur, e, hk.trans h1, h2⟩

/-- The reader in the block rb: what is left of its octets in the block D, and whether it has failed. -/
def Rd (D rb : Nat) (w : World) (nn : Bool) (bs : List UInt8) (bad : Bool) : Prop :=
  ∃ sv e, w.heap[rb]? = some (.cells #[sv, .bool bad] e (0, 0)) ∧ Sp w D nn sv bs ∧ D < rb ∧ (bad = true → nn = false)

theorem Rd.lt {D rb : Nat} {w : World} {nn : Bool} {bs : List UInt8} {bad : Bool} (h : Rd D rb w nn bs bad) : rb < w.heap.size := by
  obtain ⟨sv, e, h, _⟩ := h
  exact (Array.getElem?_eq_some_iff.1 h).1
theorem Rd.keep {D rb : Nat} {w w' : World} {nn : Bool} {bs : List UInt8} {bad : Bool} (h : Rd D rb w nn bs bad) (hD : w'.heap[D]? = w.heap[D]?) (hr : w'.heap[rb]? = w.heap[rb]?) : Rd D rb w' nn bs bad := by
  obtain ⟨sv, e, h1, h2, h3⟩ := h
  exact ⟨sv, e, hr.trans h1, h2.keep hD, h3⟩
end Go.Proofs.YtpefipjgcpchaaaGreatDoorR.Kf

namespace Go.Proofs.YtpefipjgcpchaaaGreatDoorR.Kf
set_option linter.unusedVariables false
set_option linter.unusedSimpArgs false
open Go Go.RowKit

/-! ### storing cells -/

theorem getElem?_splice (l vs : List Value) (o : Nat) (h : o + vs.length ≤ l.length) (j : Nat) :
    (l.take o ++ vs ++ l.drop (o + vs.length))[j]? = if o ≤ j ∧ j < o + vs.length then vs[j - o]? else l[j]? := by
  have h1 : (l.take o).length = o := by simp; omega
  by_cases hj : j < o
  · rw [if_neg (by omega), List.append_assoc, List.getElem?_append_left (by omega), List.getElem?_take, if_pos hj]
  · by_cases hj2 : j < o + vs.length
    · rw [if_pos (by omega), List.append_assoc, List.getElem?_append_right (by omega), h1, List.getElem?_append_left (by omega)]
    · rw [if_neg (by omega), List.getElem?_append_right (by simp; omega), List.getElem?_drop]
      congr 1
      simp
      omega

/-- The cells vs stand in the block b from o on; else nothing has changed. -/
structure Wr (b o : Nat) (vs : List Value) (w w' : World) : Prop where
  only : Only (· = b) w w'
  same : w'.heap.size = w.heap.size
  upd : Upd b o (o + vs.length) w w'
  cells : Cells w' b o vs

theorem runs_storeN {P : Program} {a : Act} {w : World} {u : Nat} {x y : Operand} {b o n : Nat} {v : Value} (hx : a.eval x = .pointer (some ⟨b, o, none⟩)) (hy : a.eval y = v)
    (hsz : ∃ inf, P.info? u = some inf ∧ inf.size = v.cells.size) (h1 : ∀ c ∈ v.cells.toList, c.oneCell' = true) (hb : Blk w b n) (hn : o + v.cells.size ≤ n) :
    ∃ w', RunsU P a w (.store u x y) w' ∧ Wr b o v.cells.toList w w' := by
  obtain ⟨cur, e, hc, rfl⟩ := hb
  obtain ⟨inf, hi, hs⟩ := hsz
  have hr := run_storeCells_at (P := P) b o e v.cells.toList 0 cur w hc (by simpa using hn) h1
  simp only [Nat.add_zero] at hr
  refine ⟨w.setRow b (cur.toList.take o ++ v.cells.toList ++ cur.toList.drop (o + v.cells.toList.length)).toArray, ?_, ?_⟩
  · intro q hq
    simp only [execOp, hq, Instr.storeAt, hx, hy, Instr.sureAddr, storeVar, sizeOf, typeInfo, Sem.run_bind, run_program, hi, Sem.run_pure, Result.andThen, hs, ne_eq, not_true_eq_false, if_false, hr]
  · have hbk : (w.setRow b (cur.toList.take o ++ v.cells.toList ++ cur.toList.drop (o + v.cells.toList.length)).toArray).heap[b]? = some (.cells (cur.toList.take o ++ v.cells.toList ++ cur.toList.drop (o + v.cells.toList.length)).toArray e (0, 0)) := setRow_heap w b cur _ e _ hc
    have hlen : o + v.cells.toList.length ≤ cur.toList.length := by simpa using hn
    refine ⟨⟨rfl, rfl, rfl, by simp [World.setRow], fun k hk hne => ?_⟩, by simp [World.setRow], ?_, ?_⟩
    · simp only [World.setRow, Array.getElem?_modify]
      rw [if_neg (fun e => hne e.symm)]
    · intro cur2 e2 h2
      rw [hc] at h2
      injection h2 with h2
      injection h2 with h3 h4
      subst h3; subst h4
      refine ⟨_, hbk, by simp at hn ⊢; omega, fun j hj => ?_⟩
      have := getElem?_splice cur.toList v.cells.toList o hlen j
      rw [if_neg (by omega)] at this
      simpa using this
    · intro j u hu
      have hj : j < v.cells.toList.length := (List.getElem?_eq_some_iff.1 hu).1
      have := getElem?_splice cur.toList v.cells.toList o hlen (o + j)
      rw [if_pos (by omega), Nat.add_sub_cancel_left] at this
      simp only [World.cell?, hbk]
      simp only [Option.isSome_none, Bool.false_eq_true, if_false, List.getElem?_toArray]
      rw [this]; exact hu

/-! ### what the reader's functions must do -/

/-- The most octets that are read. -/
def lim : Nat := 68719476736

inductive RK
  | prim (p : Prim)
  | str (c nl : Bool)
  | byt (c nl : Bool)
  | tags
  deriving DecidableEq

def RK.m : RK → M
  | .prim p => .prim p
  | .str c nl => .str c nl
  | .byt c nl => .byt c nl
  | .tags => .tags
def RK.n (k : RK) : Nat := k.m.cells
def RK.dec (k : RK) : List UInt8 → Option (Val × List UInt8) := Kf.dec k.m.w
def RK.leaf (D : Nat) : RK → World → Nat → Nat → List Value → Val → Prop
  | .prim p, _, _, _, cs, x => LPrim p cs x
  | .str _ nl, w, lo, hi, cs, x => LStr nl w lo hi cs x
  | .byt _ nl, w, _, _, cs, x => LByt D nl w cs x
  | .tags, w, lo, hi, cs, x => LTags D w lo hi cs x

theorem RK.holds {D : Nat} {k : RK} {w : World} {lo hi b off : Nat} {cs : List Value} {x : Val} (hl : lo ≤ hi) (hc : Cells w b off cs) (h : k.leaf D w lo hi cs x) : Holds D k.m w lo hi b off x := by
  cases k <;> exact ⟨hl, cs, hc, h⟩

/-- A leaf stays where the blocks that it leads to are as they were. -/
theorem RK.leaf_keep {D : Nat} {k : RK} {w w' : World} {lo hi : Nat} {cs : List Value} {x : Val} (h : k.leaf D w lo hi cs x) (hD : w'.heap[D]? = w.heap[D]?) (hk : ∀ k, lo ≤ k → k < hi → w'.heap[k]? = w.heap[k]?) : k.leaf D w' lo hi cs x := by
  cases k with
  | prim p => exact h
  | str c nl =>
    rcases h with h | ⟨h1, h | ⟨s, b, h2, h3, h4, h5, h6⟩⟩
    · exact .inl h
    · exact .inr ⟨h1, .inl h⟩
    · exact .inr ⟨h1, .inr ⟨s, b, h2, h3, h4, h5, (World.cell?_of_block (w := w) (hk b h4 h5)).trans h6⟩⟩
  | byt c nl =>
    rcases h with h | h | ⟨s, v, h1, h2, h3⟩
    · exact .inl h
    · exact .inr (.inl h)
    · exact .inr (.inr ⟨s, v, h1, h2, h3.keep hD⟩)
  | tags =>
    obtain ⟨l, hx, h⟩ := h
    refine ⟨l, hx, ?_⟩
    rcases h with h | ⟨r, h1, h2, h3, h4⟩
    · exact .inl h
    · exact .inr ⟨r, h1, h2, h3, h4.keep hD (hk r h2 h3)⟩

/-- What a reading comes to: read, and so much is left; or failed. -/
def Comes1 (D rb : Nat) (bs : List UInt8) (bad : Bool) (w' : World) (dc : List UInt8 → Option (Val × List UInt8)) (H : Val → Prop) : Prop :=
  (bad = false ∧ ∃ x bs', dc bs = some (x, bs') ∧ bs'.length ≤ bs.length ∧ H x ∧ ∃ nn, Rd D rb w' nn bs' false) ∨ ((bad = true ∨ dc bs = none) ∧ Rd D rb w' false [] true)

/-- The function F reads a value of the kind k. -/
def RdC (P : Program) (F : Nat) (k : RK) : Prop := Plain P F ∧ ∀ (D rb : Nat) (w : World) (nn : Bool) (bs : List UInt8) (bad : Bool), Rd D rb w nn bs bad → bs.length ≤ lim →
  Calls P F #[.pointer (some ⟨rb, 0, none⟩)] w fun e w' => ∃ v, e = .returned v ∧ (v.cells.size = k.n ∧ (∀ c ∈ v.cells.toList, c.oneCell' = true) ∧ Only (· = rb) w w' ∧
    Comes1 D rb bs bad w' k.dec (fun x => k.leaf D w' w.heap.size w'.heap.size v.cells.toList x))

/-- The function F reads a list's length. -/
def LenC (P : Program) (F : Nat) (c : Bool) : Prop := Plain P F ∧ ∀ (D rb : Nat) (w : World) (nn : Bool) (bs : List UInt8) (bad : Bool), Rd D rb w nn bs bad → bs.length ≤ lim →
  Calls P F #[.pointer (some ⟨rb, 0, none⟩)] w fun e w' => ∃ v, e = .returned v ∧ ∃ r : Int, v = .int .i32 r ∧ Only (· = rb) w w' ∧
    ((bad = false ∧ ∃ bs', lenDec c bs = some (r, bs') ∧ r ≤ bs'.length ∧ bs'.length ≤ bs.length ∧ ∃ nn, Rd D rb w' nn bs' false) ∨ ((bad = true ∨ lenDec c bs = none) ∧ Rd D rb w' false [] true))

/-- The function F tells whether the reader has not failed. -/
def OkC (P : Program) (F : Nat) : Prop := Plain P F ∧ ∀ (D rb : Nat) (w : World) (nn : Bool) (bs : List UInt8) (bad : Bool), Rd D rb w nn bs bad →
  Calls P F #[.pointer (some ⟨rb, 0, none⟩)] w fun e w' => ∃ v, e = .returned v ∧ v = .bool (!bad) ∧ Only (fun _ => False) w w'

/-- What an error is that is none; what one is. -/
def IsErr (bad : Bool) (v : Value) : Prop := if bad then ∃ t u, v = .iface t u else v = .nilIface

/-- The function F tells the reader's error (the variable of the error lies in the block g). -/
def CompC (P : Program) (F : Nat) (I : World → Prop) : Prop := Plain P F ∧ ∀ (D rb : Nat) (w : World) (nn : Bool) (bs : List UInt8) (bad : Bool), I w → Rd D rb w nn bs bad →
  Calls P F #[.pointer (some ⟨rb, 0, none⟩)] w fun e w' => ∃ v, e = .returned v ∧ IsErr bad v ∧ Only (fun _ => False) w w'

/-! ### where a reading stands -/

/-- The numbers of a program that the code names: the reader's type, the type of a pointer to one. -/
structure Gn where
  rt : Nat
  rs : Nat
  rp : Nat
  i16 : Nat
  i32 : Nat
  bool : Nat
  ok : Nat
  co : Nat

structure RX where
  P : Program
  G : Gn
  D : Nat
  rb : Nat
  ver : Int
  fx : Bool
  flex : Bool
  N : Nat
  M0 : Nat
  I : World → Prop
  /-- nothing below is written -/
  L : Nat
  lrb : L ≤ rb
  /-- variables lie above -/
  b9 : Nat
  b9l : 9 ≤ b9
  rsl : G.rs ≤ b9
  /-- what the errors' variable needs is kept -/
  keep : ∀ w w', I w → Only (fun k => L ≤ k) w w' → I w'

structure St (X : RX) (a : Act) (w : World) (nn : Bool) (bs : List UInt8) (bad : Bool) : Prop where
  size : a.tmps.size = X.N
  defers : a.defers = []
  un : gt a 2 = .bool false
  rd : gt a X.G.rs = .pointer (some ⟨X.rb, 0, none⟩)
  ver : gt a 8 = .int .i16 X.ver
  fl : X.fx = true → gt a 9 = .bool X.flex
  st : Rd X.D X.rb w nn bs bad
  lim : bs.length ≤ lim
  inv : X.I w

/-- The slots that a piece of code may change: variables from k on, and what stands behind m. -/
def Ch (M0 k m : Nat) (j : Nat) : Prop := (k ≤ j ∧ j < M0) ∨ m ≤ j

theorem Ag.ch {M0 k m k' m' : Nat} {a b : Act} (h : Ag (Ch M0 k' m') a b) (hk : k ≤ k') (hm : m ≤ m') : Ag (Ch M0 k m) a b :=
  h.mono fun j hj => by unfold Ch at *; omega

theorem St.act {X : RX} {a a' : Act} {w : World} {nn : Bool} {bs : List UInt8} {bad : Bool} {k m : Nat} (h : St X a w nn bs bad) (ha : Ag (Ch X.M0 k m) a a') (hk : 9 ≤ X.b9 ∧ X.b9 < k) (hm : X.b9 < m) (h0 : X.b9 < X.M0) : St X a' w nn bs bad := by
  have h9 := X.b9l
  have hr := X.rsl
  have hn : ∀ j, j ≤ X.b9 → ¬ Ch X.M0 k m j := fun j hj => by unfold Ch; omega
  exact ⟨ha.size.trans h.size, ha.defers.trans h.defers, (ha.keep 2 (hn _ (by omega))).trans h.un, (ha.keep X.G.rs (hn _ (by omega))).trans h.rd, (ha.keep 8 (hn _ (by omega))).trans h.ver,
    fun hf => (ha.keep 9 (hn _ (by omega))).trans (h.fl hf), h.st, h.lim, h.inv⟩

theorem St.world {X : RX} {a : Act} {w w' : World} {nn nn' : Bool} {bs bs' : List UInt8} {bad bad' : Bool} (h : St X a w nn bs bad) (hr : Rd X.D X.rb w' nn' bs' bad') (hl : bs'.length ≤ bs.length)
    (hk : Only (fun k => X.L ≤ k) w w') : St X a w' nn' bs' bad' :=
  ⟨h.size, h.defers, h.un, h.rd, h.ver, h.fl, hr, Nat.le_trans hl h.lim, X.keep _ _ h.inv hk⟩

theorem St.rb_gt {X : RX} {a : Act} {w : World} {nn : Bool} {bs : List UInt8} {bad : Bool} (h : St X a w nn bs bad) : X.D < X.rb ∧ X.L ≤ X.rb := by
  obtain ⟨_, _, _, _, h, _⟩ := h.st
  exact ⟨h, X.lrb⟩

/-! ### reading one value into a variable -/

/-- The type u: so many cells; how a new variable of it is laid. -/
structure BxT (P : Program) (u n : Nat) : Prop where
  alc : ∃ z : Array Value, z.size = n ∧ ∀ (o : Oper) (a : Act) (w : World), o.op = .alloc u → (execOp a.eval o).run P w = .ok (.value (.pointer (some ⟨w.heap.size, 0, none⟩))) (w.alloc (.cells z u))
  sz : ∃ inf, P.info? u = some inf ∧ inf.size = n
  desc : ∃ d, P.underlying u = some d ∧ (match d with | .struct _ | .array _ _ => true | _ => false) = true

theorem runs_loadB {P : Program} {a : Act} {w : World} {u n b o : Nat} (hu : BxT P u n) {x : Operand} {cs : List Value} (hx : a.eval x = .pointer (some ⟨b, o, none⟩)) (hl : cs.length = n) (hv : Cells w b o cs) :
    Runs P a w (.load u x) (.agg cs.toArray) w := by
  intro q h
  obtain ⟨_, ⟨inf, hi, hs⟩, ⟨d, hd, hag⟩⟩ := hu
  have h1 : (isAgg u).run P w = .ok true w := by
    simp only [Go.isAgg, Sem.run_bind, run_underlying hd, Result.andThen]
    cases d <;> first | rfl | (simp at hag)
  have h2 := run_loadCells_list (P := P) w ⟨b, o, none⟩ cs (fun j v hj => by rw [Addr.add_lit]; exact hv j v hj)
  simp [execOp, h, Instr.loadAt, hx, Instr.sureAddr, loadVar, h1, sizeOf, typeInfo, hi, hs, ← hl, h2]

/-- A variable's value: in its slot, or in a box of its own. -/
def InV (bx : Option Nat) (a : Act) (k lo : Nat) (w : World) (v : Value) : Prop :=
  match bx with
  | none => gt a k = v
  | some _ => ∃ q, gt a k = .pointer (some ⟨q, 0, none⟩) ∧ lo ≤ q ∧ q < w.heap.size ∧ Cells w q 0 v.cells.toList

inductive RV
  | prim (p : Prim) (F : Nat)
  | str1 (nl : Bool) (u s : Nat)
  | str2 (nl : Bool) (uc up sc sp : Nat)
  | str3 (nl : Bool) (uc sc up sp : Nat)
  | byt1 (nl : Bool) (F : Nat)
  | byt2 (nl : Bool) (Fc Fp : Nat)
  | uid (F u : Nat)
  | en (p : Prim) (z : Value) (F : Nat)

def RV.rk (flex : Bool) : RV → RK
  | .prim p _ => .prim p
  | .str1 nl _ _ => .str false nl
  | .str2 nl _ _ _ _ => .str flex nl
  | .str3 nl _ _ _ _ => .str flex nl
  | .byt1 nl _ => .byt false nl
  | .byt2 nl _ _ => .byt flex nl
  | .uid _ _ => .prim .uuid
  | .en p _ _ => .prim p
/-- How many variables; which one is stored. -/
def RV.kn : RV → Nat
  | .en _ _ _ => 3
  | _ => 1
def RV.dk : RV → Nat
  | .en _ _ _ => 2
  | _ => 0
theorem RV.kn_pos (v : RV) : v.dk + 1 = v.kn := by cases v <;> rfl

/-- How many temporaries its code takes. -/
def RV.t : RV → Nat
  | .prim _ _ => 1
  | .str1 _ _ _ => 3
  | .str2 _ _ _ _ _ => 7
  | .str3 _ _ _ _ _ => 7
  | .byt1 _ _ => 1
  | .byt2 _ _ _ => 3
  | .uid _ _ => 1
  | .en _ _ _ => 3
/-- The type of the box in which its variable lies, if it lies in one. -/
def RV.bx : RV → Option Nat
  | .uid _ u => some u
  | _ => none

/-- Its functions do what they must. -/
def RV.ok (P : Program) (fx : Bool) : RV → Prop
  | .prim p F => RdC P F (.prim p)
  | .str1 nl _ s => RdC P s (.str false nl)
  | .str2 nl _ _ sc sp => fx = true ∧ RdC P sc (.str true nl) ∧ RdC P sp (.str false nl)
  | .str3 nl _ sc _ sp => fx = true ∧ RdC P sc (.str true nl) ∧ RdC P sp (.str false nl)
  | .byt1 nl F => RdC P F (.byt false nl)
  | .byt2 nl Fc Fp => fx = true ∧ RdC P Fc (.byt true nl) ∧ RdC P Fp (.byt false nl)
  | .uid F u => RdC P F (.prim .uuid) ∧ BxT P u 16
  | .en p _ F => RdC P F (.prim p)
theorem RV.box {P : Program} {fx : Bool} {v : RV} (h : v.ok P fx) (f : Bool) : ∀ u, v.bx = some u → BxT P u (v.rk f).n := by
  cases v <;> intro u e <;> first | (cases e; done) | (injection e with e; subst e; exact h.2)

def nilStr (nl : Bool) : Value := if nl then .pointer none else .string ⟨#[]⟩

def gCall (G : Gn) (F k m : Nat) (c0 : Code) : Code := reg [⟨some m, .call ⟨.value (.func F), #[.tmp G.rs], #[G.rt]⟩, none⟩, ⟨some k, .assign (.tmp m), none⟩] c0
def gCopy (s d m : Nat) (c0 : Code) : Code := reg [⟨some m, .move (.tmp s), none⟩, ⟨some d, .assign (.tmp m), none⟩] c0
def gUid (G : Gn) (F u k m : Nat) (c0 : Code) : Code := reg [⟨some m, .call ⟨.value (.func F), #[.tmp G.rs], #[G.rt]⟩, none⟩, ⟨some k, .alloc u, none⟩, ⟨none, .store u (.tmp k) (.tmp m), none⟩] c0
def gMove (s m : Nat) (c0 : Code) : Code := reg [⟨some m, .move (.tmp s), none⟩] c0

def gRV (G : Gn) (k m : Nat) (sink : Code → Code) : RV → Code → Code
  | .prim _ F, c => .seq (gCall G F k m (pc c [0])) (sink (pc c [1]))
  | .byt1 _ F, c => .seq (gCall G F k m (pc c [0])) (sink (pc c [1]))
  | .uid F u, c => .seq (gUid G F u k m (pc c [0])) (sink (pc c [1]))
  | .en _ z F, c => .seq (reg [⟨some k, .assign (.const z), none⟩] (pc c [0])) (.seq (.seq (gCall G F (k + 1) m (pc c [1, 0, 0])) (gCopy (k + 1) k (m + 1) (pc c [1, 0, 1]))) (.seq (gCopy k (k + 2) (m + 2) (pc c [1, 1, 0])) (sink (pc c [1, 1, 1]))))
  | .str1 nl u s, c => .seq (reg [⟨some k, .assign (.const (nilStr nl)), none⟩] (pc c [0]))
      (.seq (.seq (gMove 2 m (pc c [1, 0, 0])) (.cond (.tmp m) (gCall G u k (m + 1) (pc c [1, 0, 1, 0])) (gCall G s k (m + 2) (pc c [1, 0, 1, 1])))) (sink (pc c [1, 1])))
  | .byt2 _ Fc Fp, c => .seq (reg [⟨some k, .assign (.const (.slice none 0 0)), none⟩] (pc c [0]))
      (.seq (.seq (gMove 9 m (pc c [1, 0, 0])) (.cond (.tmp m) (gCall G Fc k (m + 1) (pc c [1, 0, 1, 0])) (gCall G Fp k (m + 2) (pc c [1, 0, 1, 1])))) (sink (pc c [1, 1])))
  | .str2 nl uc up sc sp, c => .seq (reg [⟨some k, .assign (.const (nilStr nl)), none⟩] (pc c [0]))
      (.seq (.seq (gMove 2 m (pc c [1, 0, 0])) (.cond (.tmp m)
        (.seq (gMove 9 (m + 1) (pc c [1, 0, 1, 0, 0])) (.cond (.tmp (m + 1)) (gCall G uc k (m + 2) (pc c [1, 0, 1, 0, 1, 0])) (gCall G up k (m + 3) (pc c [1, 0, 1, 0, 1, 1]))))
        (.seq (gMove 9 (m + 4) (pc c [1, 0, 1, 1, 0])) (.cond (.tmp (m + 4)) (gCall G sc k (m + 5) (pc c [1, 0, 1, 1, 1, 0])) (gCall G sp k (m + 6) (pc c [1, 0, 1, 1, 1, 1])))))) (sink (pc c [1, 1])))
  | .str3 nl uc sc up sp, c => .seq (reg [⟨some k, .assign (.const (nilStr nl)), none⟩] (pc c [0]))
      (.seq (.seq (gMove 9 m (pc c [1, 0, 0])) (.cond (.tmp m)
        (.seq (gMove 2 (m + 1) (pc c [1, 0, 1, 0, 0])) (.cond (.tmp (m + 1)) (gCall G uc k (m + 2) (pc c [1, 0, 1, 0, 1, 0])) (gCall G sc k (m + 3) (pc c [1, 0, 1, 0, 1, 1]))))
        (.seq (gMove 2 (m + 4) (pc c [1, 0, 1, 1, 0])) (.cond (.tmp (m + 4)) (gCall G up k (m + 5) (pc c [1, 0, 1, 1, 1, 0])) (gCall G sp k (m + 6) (pc c [1, 0, 1, 1, 1, 1])))))) (sink (pc c [1, 1])))

section
variable {X : RX} {Q : Exit → Act → World → Prop}

/-- What is known behind a reading of one value into the variable k. -/
structure Got (X : RX) (bx : Option Nat) (rk : RK) (k kd m : Nat) (a : Act) (w : World) (bs : List UInt8) (bad : Bool) (a' : Act) (w' : World) (v : Value) : Prop where
  ag : Ag (Ch X.M0 k m) a a'
  val : InV bx a' kd w.heap.size w' v
  n : v.cells.size = rk.n
  one : ∀ c ∈ v.cells.toList, c.oneCell' = true
  only : Only (· = X.rb) w w'
  comes : Comes1 X.D X.rb bs bad w' rk.dec (fun x => rk.leaf X.D w' w.heap.size w'.heap.size v.cells.toList x)

theorem gCall_wp {F k kd m : Nat} {c0 : Code} {rk : RK} (hF : RdC X.P F rk) {a a0 : Act} {w : World} {nn : Bool} {bs : List UInt8} {bad : Bool} {m0 : Nat} (hst : St X a w nn bs bad)
    (h0 : Ag (Ch X.M0 k m0) a0 a) (hkk : k ≤ kd) (hk : kd < X.M0) (hm : m0 ≤ m) (hM : X.M0 ≤ m) (hN : m < X.N)
    (h : ∀ a' w' v, Got X none rk k kd m0 a0 w bs bad a' w' v → Q .normal a' w') : (gCall X.G F kd m c0).wp X.P Q a w := by
  refine wp_reg (wpC_call (R := fun v w' => v.cells.size = rk.n ∧ (∀ c ∈ v.cells.toList, c.oneCell' = true) ∧ Only (· = X.rb) w w' ∧ Comes1 X.D X.rb bs bad w' rk.dec (fun x => rk.leaf X.D w' w.heap.size w'.heap.size v.cells.toList x)) hF.1 ?_ fun v w' hv => ?_)
  · have e : (#[Operand.tmp X.G.rs] : Array Operand).map a.eval = #[.pointer (some ⟨X.rb, 0, none⟩)] := by
      have := hst.rd
      simp only [gt] at this
      simp [Act.eval, this]
    rw [e]
    exact hF.2 X.D X.rb w nn bs bad hst.st hst.lim
  · have hs : m < a.tmps.size := by rw [hst.size]; exact hN
    have hk2 : kd < (a.put (some m) v).tmps.size := by rw [size_put, hst.size]; omega
    have ha1 : Ag (Ch X.M0 k m0) a0 (a.put (some m) v) := h0.put (by unfold Ch; omega) hs v
    have hev : (a.put (some m) v).eval (.tmp m) = v := by
      show gt (a.put (some m) v) m = v
      rw [gt_put hs, if_pos rfl]
    refine wpC_val (runs_assign _) (wpC_nil ?_)
    rw [hev]
    refine h _ w' v ⟨ha1.put (by unfold Ch; omega) hk2 v, ?_, hv.1, hv.2.1, hv.2.2.1, hv.2.2.2⟩
    show gt _ kd = v
    rw [gt_put hk2, if_pos rfl]

theorem gUid_wp {F u k m : Nat} {c0 : Code} (hF : RdC X.P F (.prim .uuid)) (hB : BxT X.P u 16) {a a0 : Act} {w : World} {nn : Bool} {bs : List UInt8} {bad : Bool} {m0 : Nat} (hst : St X a w nn bs bad)
    (h0 : Ag (Ch X.M0 k m0) a0 a) (hk : k < X.M0) (hm : m0 ≤ m) (hM : X.M0 ≤ m) (hN : m < X.N)
    (h : ∀ a' w' v, Got X (some u) (.prim .uuid) k k m0 a0 w bs bad a' w' v → Q .normal a' w') : (gUid X.G F u k m c0).wp X.P Q a w := by
  refine wp_reg (wpC_call (R := fun v w' => v.cells.size = 16 ∧ (∀ c ∈ v.cells.toList, c.oneCell' = true) ∧ Only (· = X.rb) w w' ∧ Comes1 X.D X.rb bs bad w' (RK.prim .uuid).dec (fun x => (RK.prim .uuid).leaf X.D w' w.heap.size w'.heap.size v.cells.toList x)) hF.1 ?_ ?_)
  · have e : (#[Operand.tmp X.G.rs] : Array Operand).map a.eval = #[.pointer (some ⟨X.rb, 0, none⟩)] := by
      have := hst.rd
      simp only [gt] at this
      simp [Act.eval, this]
    rw [e]
    exact hF.2 X.D X.rb w nn bs bad hst.st hst.lim
  · rintro v w1 ⟨v1, v2, v3, v4⟩
    obtain ⟨z, hz, hal⟩ := hB.alc
    have hs : m < a.tmps.size := by rw [hst.size]; exact hN
    have ha1 : Ag (Ch X.M0 k m0) a0 (a.put (some m) v) := h0.put (by unfold Ch; omega) hs v
    have e1 : gt (a.put (some m) v) m = v := by rw [gt_put hs, if_pos rfl]
    have hk2 : k < (a.put (some m) v).tmps.size := by rw [size_put, hst.size]; omega
    generalize a.put (some m) v = a1 at ha1 e1 hk2
    refine wpC_val (v := .pointer (some ⟨w1.heap.size, 0, none⟩)) (w' := w1.alloc (.cells z u)) (fun o ho => hal o _ _ ho) ?_
    have ha2 := ha1.put (d := k) (by unfold Ch; omega) hk2 (.pointer (some ⟨w1.heap.size, 0, none⟩))
    have e2 : gt (a1.put (some k) (.pointer (some ⟨w1.heap.size, 0, none⟩))) k = .pointer (some ⟨w1.heap.size, 0, none⟩) := by rw [gt_put hk2, if_pos rfl]
    have e3 : gt (a1.put (some k) (.pointer (some ⟨w1.heap.size, 0, none⟩))) m = v := by rw [gt_put hk2, if_neg (by omega)]; exact e1
    generalize a1.put (some k) (.pointer (some ⟨w1.heap.size, 0, none⟩)) = a2 at ha2 e2 e3
    have hblk : Blk (w1.alloc (.cells z u)) w1.heap.size 16 := ⟨z, u, by show (w1.heap.push _)[w1.heap.size]? = _; simp, hz⟩
    obtain ⟨w2, hr, hw⟩ := runs_storeN (P := X.P) (a := a2) (u := u) (x := .tmp k) (y := .tmp m) (b := w1.heap.size) (o := 0) (v := v) e2 e3 (by obtain ⟨inf, hi, hs⟩ := hB.sz; exact ⟨inf, hi, hs.trans v1.symm⟩) v2 hblk (by omega)
    refine wpC_skip hr (wpC_nil (h _ w2 v ?_))
    have hs1 : (w1.alloc (.cells z u)).heap.size = w1.heap.size + 1 := by simp
    have o2 : Only (fun _ => False) w1 (w1.alloc (.cells z u)) := ⟨rfl, rfl, rfl, by simp, fun j hj _ => by show (w1.heap.push _)[j]? = _; rw [Array.getElem?_push, if_neg (by omega)]⟩
    have k2 : ∀ j, j < w1.heap.size → w2.heap[j]? = w1.heap[j]? := fun j hj => (hw.only.block j (by omega) (by omega)).trans (o2.block j hj id)
    have hwl := v3.size
    refine ⟨ha2, ⟨_, e2, hwl, by have := hw.same; omega, hw.cells⟩, v1, v2, ?_, ?_⟩
    · exact ⟨hw.only.os.trans (o2.os.trans v3.os), hw.only.tape.trans (o2.tape.trans v3.tape), hw.only.output.trans (o2.output.trans v3.output), by have := hw.same; omega, fun j hj hn => (k2 j (by omega)).trans (v3.block j hj hn)⟩
    · have hD : X.D < X.rb := hst.rb_gt.1
      have hrb : X.rb < w.heap.size := hst.st.lt
      rcases v4 with ⟨c1, x, bs', c2, c3, c4, nn', c5⟩ | ⟨c1, c2⟩
      · exact .inl ⟨c1, x, bs', c2, c3, c4, nn', c5.keep (k2 _ (by omega)) (k2 _ (by omega))⟩
      · exact .inr ⟨c1, c2.keep (k2 _ (by omega)) (k2 _ (by omega))⟩

theorem gMove_wp {s m : Nat} {c0 : Code} {a : Act} {w : World} (hN : m < a.tmps.size) (h : Q .normal (a.put (some m) (gt a s)) w) : (gMove s m c0).wp X.P Q a w :=
  wp_reg (wpC_val (runs_move _) (wpC_nil h))

theorem gCopy_wp {P : Program} {Q : Exit → Act → World → Prop} {a : Act} {w : World} {s d m : Nat} {c0 : Code} (hd : d < a.tmps.size) (hm : m < a.tmps.size) (h : ∀ a', Ag (fun j => j = d ∨ j = m) a a' → gt a' d = gt a s → Q .normal a' w) : (gCopy s d m c0).wp P Q a w := by
  refine wp_reg (wpC_val (runs_move _) ?_)
  have g1 := (Ag.refl (fun j => j = d ∨ j = m) a).put (d := m) (by omega) hm (a.eval (.tmp s))
  have e1 : gt (a.put (some m) (a.eval (.tmp s))) m = gt a s := by rw [gt_put hm, if_pos rfl]; rfl
  generalize a.put (some m) (a.eval (.tmp s)) = a1 at g1 e1
  refine wpC_val (runs_assign _) (wpC_nil ?_)
  have z : d < a1.tmps.size := by rw [g1.size]; exact hd
  exact h _ (g1.put (d := d) (by omega) z _) (by rw [gt_put z, if_pos rfl]; exact e1)

theorem gRV_wp (v : RV) {k m : Nat} {sink : Code → Code} {c0 : Code} (hv : v.ok X.P X.fx) {a : Act} {w : World} {nn : Bool} {bs : List UInt8} {bad : Bool} (hst : St X a w nn bs bad)
    (h9 : 9 ≤ X.b9 ∧ X.b9 < k) (hk : k + v.dk < X.M0) (hm : X.M0 ≤ m) (hN : m + v.t ≤ X.N)
    (h : ∀ c a' w' u, Got X v.bx (v.rk X.flex) k (k + v.dk) m a w bs bad a' w' u → (sink c).wp X.P Q a' w') : (gRV X.G k m sink v c0).wp X.P Q a w := by
  cases v with
  | en p z F =>
    simp only [RV.t] at hN
    simp only [RV.dk] at hk
    have hs0 : k < a.tmps.size := by rw [hst.size]; omega
    refine wp_seq (wp_reg (wpC_val (runs_assign _) (wpC_nil ?_)))
    have g1 : Ag (Ch X.M0 k m) a (a.put (some k) (a.eval (.const z))) := (Ag.refl _ _).put (by unfold Ch; omega) hs0 _
    have st1 := hst.act g1 h9 (by omega) (by omega)
    generalize a.put (some k) (a.eval (.const z)) = a1 at g1 st1
    refine wp_seq (wp_seq (gCall_wp (rk := .prim p) (kd := k + 1) hv st1 g1 (by omega) (by omega) (Nat.le_refl m) hm (by omega) fun a2 w2 u hu => ?_))
    have s2 : a2.tmps.size = X.N := hu.ag.size.trans hst.size
    refine gCopy_wp (by omega) (by omega) fun a3 g3 v3 => ?_
    refine wp_seq (gCopy_wp (by rw [g3.size]; omega) (by rw [g3.size]; omega) fun a4 g4 v4 => ?_)
    have f4 : Ag (Ch X.M0 k m) a a4 := (hu.ag.trans (g3.mono fun j hj => by unfold Ch; omega)).trans (g4.mono fun j hj => by unfold Ch; omega)
    exact h _ a4 w2 u ⟨f4, v4.trans (v3.trans hu.val), hu.n, hu.one, hu.only, hu.comes⟩
  | prim p F =>
    simp only [RV.t] at hN
    refine wp_seq (gCall_wp (rk := .prim p) hv hst (Ag.refl _ _) (Nat.le_refl _) hk (Nat.le_refl m) hm (by omega) fun a' w' u hu => h _ _ _ u hu)
  | uid F u =>
    simp only [RV.t] at hN
    refine wp_seq (gUid_wp hv.1 hv.2 hst (Ag.refl _ _) hk (Nat.le_refl m) hm (by omega) fun a' w' u hu => h _ _ _ u hu)
  | byt1 nl F =>
    simp only [RV.t] at hN
    refine wp_seq (gCall_wp (rk := .byt false nl) hv hst (Ag.refl _ _) (Nat.le_refl _) hk (Nat.le_refl m) hm (by omega) fun a' w' u hu => h _ _ _ u hu)
  | str1 nl u s =>
    simp only [RV.t] at hN
    have hs0 : k < a.tmps.size := by rw [hst.size]; omega
    refine wp_seq (wp_reg (wpC_val (runs_assign _) (wpC_nil ?_)))
    have g1 : Ag (Ch X.M0 k m) a (a.put (some k) (a.eval (.const (nilStr nl)))) := (Ag.refl _ _).put (by unfold Ch; omega) hs0 _
    have st1 := hst.act g1 h9 (by omega) (by omega)
    refine wp_seq (wp_seq (gMove_wp (X := X) (by rw [st1.size]; omega) ?_))
    have g2 := g1.put (d := m) (by unfold Ch; omega) (by rw [st1.size]; omega) (gt (a.put (some k) (a.eval (.const (nilStr nl)))) 2)
    have st2 := hst.act g2 h9 (by omega) (by omega)
    refine wp_cond_false (show gt _ m = _ by rw [gt_put (by rw [st1.size]; omega), if_pos rfl, st1.un]) ?_
    exact gCall_wp (rk := .str false nl) hv st2 g2 (Nat.le_refl _) hk (by omega) (by omega) (by omega) fun a' w' u hu => h _ _ _ u hu
  | byt2 nl Fc Fp =>
    simp only [RV.t] at hN
    obtain ⟨hfx, hc, hp⟩ := hv
    have hs0 : k < a.tmps.size := by rw [hst.size]; omega
    refine wp_seq (wp_reg (wpC_val (runs_assign _) (wpC_nil ?_)))
    have g1 : Ag (Ch X.M0 k m) a (a.put (some k) (a.eval (.const (.slice none 0 0)))) := (Ag.refl _ _).put (by unfold Ch; omega) hs0 _
    have st1 := hst.act g1 h9 (by omega) (by omega)
    refine wp_seq (wp_seq (gMove_wp (X := X) (by rw [st1.size]; omega) ?_))
    have g2 := g1.put (d := m) (by unfold Ch; omega) (by rw [st1.size]; omega) (gt (a.put (some k) (a.eval (.const (.slice none 0 0)))) 9)
    have st2 := hst.act g2 h9 (by omega) (by omega)
    refine wp_cond (t := X.flex) (show gt _ m = _ by rw [gt_put (by rw [st1.size]; omega), if_pos rfl, st1.fl hfx]) ?_
    cases hf : X.flex with
    | true =>
      rw [if_pos rfl]
      exact gCall_wp (rk := .byt true nl) hc st2 g2 (Nat.le_refl _) hk (by omega) (by omega) (by omega) fun a' w' u hu => h _ _ _ u (by simpa [RV.rk, RV.bx, RV.dk, hf] using hu)
    | false =>
      rw [if_neg (by decide)]
      exact gCall_wp (rk := .byt false nl) hp st2 g2 (Nat.le_refl _) hk (by omega) (by omega) (by omega) fun a' w' u hu => h _ _ _ u (by simpa [RV.rk, RV.bx, RV.dk, hf] using hu)
  | str2 nl uc up sc sp =>
    simp only [RV.t] at hN
    obtain ⟨hfx, hc, hp⟩ := hv
    have hs0 : k < a.tmps.size := by rw [hst.size]; omega
    refine wp_seq (wp_reg (wpC_val (runs_assign _) (wpC_nil ?_)))
    have g1 : Ag (Ch X.M0 k m) a (a.put (some k) (a.eval (.const (nilStr nl)))) := (Ag.refl _ _).put (by unfold Ch; omega) hs0 _
    have st1 := hst.act g1 h9 (by omega) (by omega)
    refine wp_seq (wp_seq (gMove_wp (X := X) (by rw [st1.size]; omega) ?_))
    have g2 := g1.put (d := m) (by unfold Ch; omega) (by rw [st1.size]; omega) (gt (a.put (some k) (a.eval (.const (nilStr nl)))) 2)
    have st2 := hst.act g2 h9 (by omega) (by omega)
    refine wp_cond_false (show gt _ m = _ by rw [gt_put (by rw [st1.size]; omega), if_pos rfl, st1.un]) ?_
    refine wp_seq (gMove_wp (X := X) (by rw [st2.size]; omega) ?_)
    have g3 := g2.put (d := m + 4) (by unfold Ch; omega) (by rw [st2.size]; omega) (gt ((a.put (some k) (a.eval (.const (nilStr nl)))).put (some m) (gt (a.put (some k) (a.eval (.const (nilStr nl)))) 2)) 9)
    have st3 := hst.act g3 h9 (by omega) (by omega)
    refine wp_cond (t := X.flex) (show gt _ (m + 4) = _ by rw [gt_put (by rw [st2.size]; omega), if_pos rfl, st2.fl hfx]) ?_
    cases hf : X.flex with
    | true =>
      rw [if_pos rfl]
      exact gCall_wp (rk := .str true nl) hc st3 g3 (Nat.le_refl _) hk (by omega) (by omega) (by omega) fun a' w' u hu => h _ _ _ u (by simpa [RV.rk, RV.bx, RV.dk, hf] using hu)
    | false =>
      rw [if_neg (by decide)]
      exact gCall_wp (rk := .str false nl) hp st3 g3 (Nat.le_refl _) hk (by omega) (by omega) (by omega) fun a' w' u hu => h _ _ _ u (by simpa [RV.rk, RV.bx, RV.dk, hf] using hu)
  | str3 nl uc sc up sp =>
    simp only [RV.t] at hN
    obtain ⟨hfx, hc, hp⟩ := hv
    have hs0 : k < a.tmps.size := by rw [hst.size]; omega
    refine wp_seq (wp_reg (wpC_val (runs_assign _) (wpC_nil ?_)))
    have g1 : Ag (Ch X.M0 k m) a (a.put (some k) (a.eval (.const (nilStr nl)))) := (Ag.refl _ _).put (by unfold Ch; omega) hs0 _
    have st1 := hst.act g1 h9 (by omega) (by omega)
    generalize a.put (some k) (a.eval (.const (nilStr nl))) = a1 at g1 st1
    refine wp_seq (wp_seq (gMove_wp (X := X) (by rw [st1.size]; omega) ?_))
    have g2 := g1.put (d := m) (by unfold Ch; omega) (by rw [st1.size]; omega) (gt a1 9)
    have st2 := hst.act g2 h9 (by omega) (by omega)
    refine wp_cond (t := X.flex) (show gt _ m = _ by rw [gt_put (by rw [st1.size]; omega), if_pos rfl, st1.fl hfx]) ?_
    generalize a1.put (some m) (gt a1 9) = a2 at g2 st2
    cases hf : X.flex with
    | true =>
      rw [if_pos rfl]
      refine wp_seq (gMove_wp (X := X) (by rw [st2.size]; omega) ?_)
      have g3 := g2.put (d := m + 1) (by unfold Ch; omega) (by rw [st2.size]; omega) (gt a2 2)
      have st3 := hst.act g3 h9 (by omega) (by omega)
      refine wp_cond_false (show gt _ (m + 1) = _ by rw [gt_put (by rw [st2.size]; omega), if_pos rfl, st2.un]) ?_
      exact gCall_wp (rk := .str true nl) hc st3 g3 (Nat.le_refl _) hk (by omega) (by omega) (by omega) fun a' w' u hu => h _ _ _ u (by simpa [RV.rk, RV.bx, RV.dk, hf] using hu)
    | false =>
      rw [if_neg (by decide)]
      refine wp_seq (gMove_wp (X := X) (by rw [st2.size]; omega) ?_)
      have g3 := g2.put (d := m + 4) (by unfold Ch; omega) (by rw [st2.size]; omega) (gt a2 2)
      have st3 := hst.act g3 h9 (by omega) (by omega)
      refine wp_cond_false (show gt _ (m + 4) = _ by rw [gt_put (by rw [st2.size]; omega), if_pos rfl, st2.un]) ?_
      exact gCall_wp (rk := .str false nl) hp st3 g3 (Nat.le_refl _) hk (by omega) (by omega) (by omega) fun a' w' u hu => h _ _ _ u (by simpa [RV.rk, RV.bx, RV.dk, hf] using hu)
end
end Go.Proofs.YtpefipjgcpchaaaGreatDoorR.Kf
