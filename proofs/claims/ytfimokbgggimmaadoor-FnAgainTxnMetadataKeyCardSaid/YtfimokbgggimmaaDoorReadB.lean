/- Reading, the second part: the code that stores what was read, in a field or in a list's place; lists. -/
import Derived.Test.YtfimokbgggimmaaDoorReadA
namespace Go.Proofs.YtfimokbgggimmaaDoor.Kf
set_option linter.unusedVariables false
set_option linter.unusedSimpArgs false
open Go Go.RowKit

section
variable {P : Program} {a : Act} {w : World}

theorem evT (a : Act) (j : Nat) : a.eval (.tmp j) = gt a j := rfl

theorem runs_cmp (op : BinOp) (f : Int → Int → Bool) (hop : (op = .lss ∧ f = fun x y => decide (x < y)) ∨ (op = .geq ∧ f = fun x y => decide (x ≥ y)) ∨ (op = .gtr ∧ f = fun x y => decide (x > y)) ∨ (op = .leq ∧ f = fun x y => decide (x ≤ y)) ∨ (op = .eql ∧ f = fun x y => x == y))
    {t t2 : Nat} {x y : Operand} {k : IntKind} {p q : Int} (hx : a.eval x = .int k p) (hy : a.eval y = .int k q) : Runs P a w (.binOp op t x y t2) (.bool (f p q)) w := by
  intro o h
  rcases hop with ⟨rfl, rfl⟩ | ⟨rfl, rfl⟩ | ⟨rfl, rfl⟩ | ⟨rfl, rfl⟩ | ⟨rfl, rfl⟩ <;> simp [execOp, h, hx, hy, eqGuard_at_int, binOp_lss, binOp_geq, binOp_gtr, binOp_leq, binOp_eql, eqGuard_lss, eqGuard_geq, eqGuard_gtr, eqGuard_leq]

theorem runs_add {t t2 : Nat} {x y : Operand} {k : IntKind} {p q : Int} (hx : a.eval x = .int k p) (hy : a.eval y = .int k q) : Runs P a w (.binOp .add t x y t2) (.int k (k.wrap (p + q))) w := by
  intro o h
  simp [execOp, h, hx, hy, eqGuard_add, binOp_add, Op.intArith]

theorem runs_not {t : Nat} {x : Operand} {b : Bool} (hx : a.eval x = .bool b) : Runs P a w (.unOp .not t x) (.bool (!b)) w := by
  intro o h
  simp [execOp, h, hx, Op.unary]

/-- A slice type of things of so many cells and octets. -/
structure Sl (P : Program) (TS sz eb : Nat) (zs : List Value) : Prop where
  ex : ∃ E, P.underlying TS = some (.slice E) ∧ ∃ inf, P.info? E = some inf ∧ inf.size = sz ∧ inf.bytes = eb ∧ ∃ z, inf.zero = some z ∧ z.cells.toList = zs
  one : One P TS
  sz0 : 0 < sz
  len : zs.length = sz

theorem runs_indexAddr {TS sz eb : Nat} {zs : List Value} (hS : Sl P TS sz eb zs) {x y : Operand} {p : Addr} {n c : Nat} {k : IntKind} {i : Int} (hx : a.eval x = .slice (some p) n c) (hy : a.eval y = .int k i) (h0 : 0 ≤ i) (h1 : i < n) :
    Runs P a w (.indexAddr TS x y) (.pointer (some (p.add (i.toNat * sz)))) w := by
  intro o h
  obtain ⟨E, hT, inf, hi, hs, _⟩ := hS.ex
  simp [execOp, h, hx, hy, Instr.indexAt, run_underlying hT, asIntOf, sizeOf, typeInfo, hi, hs, h0, h1]

/-- x[:0] of an empty slice without room. -/
theorem runs_slice0 {TS sz eb : Nat} {zs : List Value} (hS : Sl P TS sz eb zs) {x : Operand} {p : Option Addr} (hx : a.eval x = .slice p 0 0) :
    Runs P a w (.slice TS x none (some (.const (.int .i64 0))) none) (.slice p 0 0) w := by
  intro o h
  obtain ⟨E, hT, inf, hi, hs, _⟩ := hS.ex
  have e0 : a.eval (.const (.int .i64 0)) = .int .i64 0 := rfl
  cases p <;> simp [execOp, h, hx, e0, Instr.sliceAt, run_underlying hT, Instr.slice, Instr.sliceBounds, Instr.sliceBound, asIntOf, sizeOf, typeInfo, hi]

/-- []T{}. -/
theorem runs_empty {TS sz eb : Nat} {zs : List Value} (hS : Sl P TS sz eb zs) : ∃ e, Runs P a w (.buildSlice TS 0 #[]) (.slice (some ⟨w.heap.size, 0, none⟩) 0 0) (w.alloc (.cells #[] e)) := by
  obtain ⟨E, hT, inf, hi, hs, _⟩ := hS.ex
  refine ⟨E, fun o h => ?_⟩
  simp [execOp, h, Instr.buildSlice, run_underlying hT, sizeOf, typeInfo, hi, Instr.fill, newRow, Array.range_zero']

theorem grownCap_lt (w : World) (need old : Nat) (e : TypeId) : need ≤ grownCap w need old e := grownCap_ge w need old e

theorem zeroCells_get (z : Array Value) (n : Nat) (j i : Nat) (hj : j < n) (hi : i < z.size) : (Builtin.zeroCells z n)[j * z.size + i]? = z[i]? := by
  have hlt : j * z.size + i < n * z.size := by
    have : (j + 1) * z.size ≤ n * z.size := Nat.mul_le_mul_right _ hj
    rw [Nat.add_mul, Nat.one_mul] at this
    omega
  simp only [Builtin.zeroCells]
  rw [Array.getElem?_map, Array.getElem?_range, if_pos hlt]
  simp only [Option.map_some]
  have : (j * z.size + i) % z.size = i := by
    rw [Nat.add_comm, Nat.add_mul_mod_self_right, Nat.mod_eq_of_lt hi]
  rw [this, Array.getElem?_eq_getElem hi, getElem!_pos z i hi]

/-- append(a, make([]T, l)...), a empty and without room, l > 0: a new list of so many things as they are at first. -/
theorem runs_make {TS t2 sz eb : Nat} {zs : List Value} (hS : Sl P TS sz eb zs) (h2 : P.underlying t2 = some (.int .i32)) {x y : Operand} {p : Option Addr} {l : Nat} (hx : a.eval x = .slice p 0 0) (hy : a.eval y = .int .i32 l)
    (h0 : 0 < l) (hl : l ≤ lim) (hb : eb ≤ 2048) :
    ∃ (c : Nat) (w' : World), Runs P a w (.call ⟨.builtin .append, #[x, y], #[TS, t2]⟩) (.slice (some ⟨w.heap.size, 0, none⟩) l c) w' ∧ l ≤ c ∧ Only (fun _ => False) w w' ∧ w'.heap.size = w.heap.size + 1 ∧ Blk w' w.heap.size (c * sz) ∧
      ∀ i, i < l → Cells w' w.heap.size (i * sz) zs := by
  obtain ⟨E, hT, inf, hi, hs, he, z, hz, hzs⟩ := hS.ex
  have hzn : z.cells.size = sz := by rw [← hS.len, ← hzs]; simp
  have hwrap : IntKind.i64.wrap (l : Int) = l := by unfold lim at hl; exact IntWalk.i64_in _ (by omega)
  have hby : l * eb ≤ 281474976710656 := by
    have : l * eb ≤ lim * 2048 := Nat.mul_le_mul hl hb
    unfold lim at this; omega
  have hby2 : ¬ ((l : Int) * (eb : Int) > 281474976710656) := by
    have : ((l * eb : Nat) : Int) ≤ 281474976710656 := by omega
    rw [Int.natCast_mul] at this
    omega
  have hcap : Builtin.nextslicecap l 0 = l := by unfold Builtin.nextslicecap; rw [if_pos (by omega)]
  have hmax : ¬ ((l : Int) > 9223372036854775807) := by unfold lim at hl; omega
  let c := grownCap w l 0 E
  have hc : l ≤ c := grownCap_ge w l 0 E
  refine ⟨c, { w with drawn := w.drawn + 1, heap := w.heap.push (.cells (Builtin.zeroCells z.cells l ++ Builtin.zeroCells z.cells (c - l)) E) }, ?_, hc, ?_, ?_, ?_, ?_⟩
  · intro o h
    have n1 : ¬ ((l : Int) < 0) := by omega
    have n2 : ¬ (281474976710656 < (l : Int) * (eb : Int)) := by omega
    have n3 : ¬ l = 0 := by omega
    have n4 : ¬ (9223372036854775807 < (l : Int)) := by omega
    have n5 : ¬ (281474976710656 < l * eb) := by omega
    have n6 : ¬ sz = 0 := by have := hS.sz0; omega
    have n8 : ¬ (l * sz = 0) := by have := Nat.mul_pos h0 hS.sz0; omega
    have n7 : (Question.appendCap l 0 E).forced = false := rfl
    have hold : ∀ w1, (Builtin.firstCells sz 0 (.slice p 0 0)).run P w1 = .ok #[] w1 := by
      intro w1; cases p <;> simp [Builtin.firstCells, loadCells, loadCellsFrom]
    simp [execOp, h, resolve, invoke, builtin, hx, hy, Builtin.append_, run_underlying hT, run_underlying h2, sizeOf, typeInfo, hi, hs, asInt, asIntOf, hwrap, he, zeroValue, hz, hold, n1, n2, n3, n4, n5, n6, hcap, n7, newRow]
    rw [if_neg n8]
    rfl
  · exact ⟨rfl, rfl, rfl, by simp, fun k hk _ => by
      show (w.heap.push _)[k]? = _
      rw [Array.getElem?_push, if_neg (by omega)]⟩
  · show (w.heap.push _).size = _
    simp
  · refine ⟨Builtin.zeroCells z.cells l ++ Builtin.zeroCells z.cells (c - l), E, by simp, ?_⟩
    simp only [Array.size_append, Builtin.zeroCells, Array.size_map, Array.size_range, hzn]
    rw [← Nat.add_mul, Nat.add_sub_cancel' hc]
  · intro i hil j v hv
    have hj : j < z.cells.size := by
      have := (List.getElem?_eq_some_iff.1 hv).1
      rw [hS.len] at this; omega
    have hlt : i * sz + j < (Builtin.zeroCells z.cells l).size := by
      simp only [Builtin.zeroCells, Array.size_map, Array.size_range, hzn]
      have : (i + 1) * sz ≤ l * sz := Nat.mul_le_mul_right _ hil
      rw [Nat.add_mul, Nat.one_mul] at this
      omega
    simp only [World.cell?, Array.getElem?_push_size]
    simp only [Option.isSome_none, Bool.false_eq_true, if_false]
    rw [Array.getElem?_append_left hlt]
    have := zeroCells_get z.cells l i j hil hj
    rw [hzn] at this
    rw [this, ← Array.getElem?_toList, hzs]
    exact hv
end

/-! ### where what was read goes -/

def sinkF (T i u s k m : Nat) (c0 : Code) : Code :=
  reg [⟨some m, .move (.tmp s), none⟩, ⟨some (m + 1), .move (.tmp k), none⟩, ⟨some (m + 2), .nilCheck (.tmp m), none⟩, ⟨some (m + 3), .fieldAddr T (.tmp (m + 2)) i, none⟩, ⟨none, .store u (.tmp (m + 3)) (.tmp (m + 1)), none⟩] c0

def sinkI (TS u ls is k m : Nat) (c0 : Code) : Code :=
  reg [⟨some m, .move (.tmp ls), none⟩, ⟨some (m + 1), .move (.tmp is), none⟩, ⟨some (m + 2), .move (.tmp k), none⟩, ⟨some (m + 3), .indexAddr TS (.tmp m) (.tmp (m + 1)), none⟩, ⟨none, .store u (.tmp (m + 3)) (.tmp (m + 2)), none⟩] c0

section
variable {P : Program} {Q : Exit → Act → World → Prop}

theorem Ag.gt {S : Nat → Prop} {a b : Act} (h : Ag S a b) {j : Nat} (hj : ¬ S j) : gt b j = gt a j := h.keep j hj

/-- Temporaries from m on. -/
def Tm (m j : Nat) : Prop := m ≤ j

theorem Ag.tm {M0 k m m' : Nat} {a b : Act} (h : Ag (Tm m') a b) (hm : m ≤ m') : Ag (Ch M0 k m) a b := h.mono fun j hj => by unfold Tm at hj; unfold Ch; omega

theorem sinkF_wp {T i u s k m o n b off N : Nat} {c0 : Code} {a : Act} {w : World} {v : Value} (hs : gt a s = .pointer (some ⟨b, off, none⟩)) (hk : gt a k = v) (hf : FieldAt P T i o u n)
    (hv : v.cells.size = n) (h1 : ∀ c ∈ v.cells.toList, c.oneCell' = true) (hb : Blk w b N) (hn : off + o + n ≤ N) (hsm : s < m) (hkm : k < m) (hN : m + 4 ≤ a.tmps.size)
    (h : ∀ a' w', Ag (Tm m) a a' → Wr b (off + o) v.cells.toList w w' → Q .normal a' w') : (sinkF T i u s k m c0).wp P Q a w := by
  refine wp_reg (wpC_val (runs_move _) (wpC_val (runs_move _) ?_))
  have z0 : m < a.tmps.size := by omega
  have g1 := (Ag.refl (Tm m) a).put (d := m) (by unfold Tm; omega) z0 (a.eval (.tmp s))
  have z1 : m + 1 < (a.put (some m) (a.eval (.tmp s))).tmps.size := by rw [g1.size]; omega
  have e1 : (a.put (some m) (a.eval (.tmp s))).eval (.tmp k) = v := by
    rw [evT, gt_put z0, if_neg (by omega)]; exact hk
  rw [e1]
  have g2 := g1.put (d := m + 1) (by unfold Tm; omega) z1 v
  generalize hA : (a.put (some m) (a.eval (.tmp s))).put (some (m + 1)) v = A at g2
  have am : gt A m = .pointer (some ⟨b, off, none⟩) := by
    rw [← hA, gt_put z1, if_neg (by omega), gt_put z0, if_pos rfl, evT]; exact hs
  have am1 : gt A (m + 1) = v := by rw [← hA, gt_put z1, if_pos rfl]
  have z2 : m + 2 < A.tmps.size := by rw [g2.size]; omega
  refine wpC_val (runs_nilCheck (p := ⟨b, off, none⟩) am) ?_
  have g3 := g2.put (d := m + 2) (by unfold Tm; omega) z2 (.pointer (some ⟨b, off, none⟩))
  have z3 : m + 3 < (A.put (some (m + 2)) (.pointer (some ⟨b, off, none⟩))).tmps.size := by rw [g3.size]; omega
  refine wpC_val (runs_fieldAddr hf (p := ⟨b, off, none⟩) (by rw [evT, gt_put z2, if_pos rfl])) ?_
  have g4 := g3.put (d := m + 3) (by unfold Tm; omega) z3 (.pointer (some ((⟨b, off, none⟩ : Addr).add o)))
  rw [Addr.add_lit] at g4 ⊢
  obtain ⟨w', hr, hw⟩ := runs_storeN (P := P) (a := (A.put (some (m + 2)) (.pointer (some ⟨b, off, none⟩))).put (some (m + 3)) (.pointer (some ⟨b, off + o, none⟩))) (u := u) (x := .tmp (m + 3)) (y := .tmp (m + 1)) (b := b) (o := off + o) (v := v)
    (by rw [evT, gt_put z3, if_pos rfl]) (by rw [evT, gt_put z3, if_neg (by omega), gt_put z2, if_neg (by omega)]; exact am1) (by obtain ⟨inf, hi, hz⟩ := hf.sz; exact ⟨inf, hi, hz.trans hv.symm⟩) h1 hb (by omega)
  exact wpC_skip hr (wpC_nil (h _ w' g4 hw))

theorem sinkI_wp {TS sz eb : Nat} {zs : List Value} (hS : Sl P TS sz eb zs) {u ls is k m b N n c : Nat} {c0 : Code} {a : Act} {w : World} {v : Value} {ik : IntKind} {i : Nat} (hs : gt a ls = .slice (some ⟨b, 0, none⟩) n c) (hi : gt a is = .int ik i) (hin : i < n) (hk : gt a k = v)
    (hu : ∃ inf, P.info? u = some inf ∧ inf.size = sz) (hv : v.cells.size = sz) (h1 : ∀ c ∈ v.cells.toList, c.oneCell' = true) (hb : Blk w b N) (hn : i * sz + sz ≤ N) (hsm : ls < m) (him : is < m) (hkm : k < m) (hN : m + 4 ≤ a.tmps.size)
    (h : ∀ a' w', Ag (Tm m) a a' → Wr b (i * sz) v.cells.toList w w' → Q .normal a' w') : (sinkI TS u ls is k m c0).wp P Q a w := by
  refine wp_reg (wpC_val (runs_move _) (wpC_val (runs_move _) (wpC_val (runs_move _) ?_)))
  have z0 : m < a.tmps.size := by omega
  have g1 := (Ag.refl (Tm m) a).put (d := m) (by unfold Tm; omega) z0 (a.eval (.tmp ls))
  have z1 : m + 1 < (a.put (some m) (a.eval (.tmp ls))).tmps.size := by rw [g1.size]; omega
  have e1 : (a.put (some m) (a.eval (.tmp ls))).eval (.tmp is) = .int ik i := by
    rw [evT, gt_put z0, if_neg (by omega)]; exact hi
  rw [e1]
  have g2 := g1.put (d := m + 1) (by unfold Tm; omega) z1 (.int ik i)
  generalize hA : (a.put (some m) (a.eval (.tmp ls))).put (some (m + 1)) (.int ik i) = A at g2
  have z2 : m + 2 < A.tmps.size := by rw [g2.size]; omega
  have am : gt A m = .slice (some ⟨b, 0, none⟩) n c := by
    rw [← hA, gt_put z1, if_neg (by omega), gt_put z0, if_pos rfl, evT]; exact hs
  have am1 : gt A (m + 1) = .int ik i := by rw [← hA, gt_put z1, if_pos rfl]
  have ak : A.eval (.tmp k) = v := by rw [evT, g2.keep k (by unfold Tm; omega)]; exact hk
  rw [ak]
  have g3 := g2.put (d := m + 2) (by unfold Tm; omega) z2 v
  have z3 : m + 3 < (A.put (some (m + 2)) v).tmps.size := by rw [g3.size]; omega
  refine wpC_val (runs_indexAddr hS (p := ⟨b, 0, none⟩) (n := n) (c := c) (k := ik) (i := i) (by rw [evT, gt_put z2, if_neg (by omega)]; exact am) (by rw [evT, gt_put z2, if_neg (by omega)]; exact am1) (by omega) (by omega)) ?_
  have g4 := g3.put (d := m + 3) (by unfold Tm; omega) z3 (.pointer (some ((⟨b, 0, none⟩ : Addr).add ((i : Int).toNat * sz))))
  rw [Addr.add_lit, Int.toNat_natCast, Nat.zero_add] at g4 ⊢
  obtain ⟨w', hr, hw⟩ := runs_storeN (P := P) (a := (A.put (some (m + 2)) v).put (some (m + 3)) (.pointer (some ⟨b, i * sz, none⟩))) (u := u) (x := .tmp (m + 3)) (y := .tmp (m + 2)) (b := b) (o := i * sz) (v := v)
    (by rw [evT, gt_put z3, if_pos rfl]) (by rw [evT, gt_put z3, if_neg (by omega), gt_put z2, if_pos rfl]) (by obtain ⟨inf, hi, hz⟩ := hu; exact ⟨inf, hi, hz.trans hv.symm⟩) h1 hb (by omega)
  exact wpC_skip hr (wpC_nil (h _ w' g4 hw))
end

/-! ### what a piece of code reads -/

/-- What must hold of Q behind a piece of code that reads by dc, from the slots k, m on, into the cells from lo on and below hi of the block b. -/
structure RQ (X : RX) (dc : List UInt8 → Option (Val × List UInt8)) (H : World → Nat → Nat → Val → Prop) (k m b lo hi : Nat) (a : Act) (w : World) (bs : List UInt8) (bad : Bool) (Q : Exit → Act → World → Prop) : Prop where
  good : ∀ a' w' x bs' nn', bad = false → dc bs = some (x, bs') → Ag (Ch X.M0 k m) a a' → Only (fun j => j = X.rb ∨ j = b) w w' → Upd b lo hi w w' → St X a' w' nn' bs' false → H w' w.heap.size w'.heap.size x → Q .normal a' w'
  fail : ∀ a' w', (bad = true ∨ dc bs = none) → Ag (Ch X.M0 k m) a a' → Only (fun j => j = X.rb ∨ j = b) w w' → Upd b lo hi w w' → St X a' w' false [] true → Q .normal a' w'
  ret : ∀ a' w', (bad = true ∨ dc bs = none) → a'.defers = [] → IsErr true (gt a' 6) → Only (fun j => j = X.rb ∨ j = b) w w' → Upd b lo hi w w' → Q .ret a' w'

def Reads (X : RX) (c : Code) (dc : List UInt8 → Option (Val × List UInt8)) (H : World → Nat → Nat → Val → Prop) (k m b lo hi : Nat) (a : Act) (w : World) (bs : List UInt8) (bad : Bool) : Prop :=
  ∀ Q, RQ X dc H k m b lo hi a w bs bad Q → c.wp X.P Q a w

section
variable {X : RX}

/-- What stands behind a store into another block. -/
theorem Got.store {rk : RK} {k m b o : Nat} {a a' : Act} {w w' w2 : World} {nn : Bool} {bs : List UInt8} {bad : Bool} {v : Value} (hst : St X a w nn bs bad) (g : Got X rk k m a w bs bad a' w' v) (hw : Wr b o v.cells.toList w' w2) (hb : b < w.heap.size) (hbr : b ≠ X.rb) (hbD : (X.L ≤ b ∧ b ≠ X.D)) :
    Only (fun j => j = X.rb ∨ j = b) w w2 ∧ Upd b o (o + v.cells.toList.length) w w2 ∧ Only (fun j => X.L ≤ j) w w2 ∧
    ((bad = false ∧ ∃ x bs', rk.dec bs = some (x, bs') ∧ bs'.length ≤ bs.length ∧ Holds X.D rk.m w2 w.heap.size w2.heap.size b o x ∧ ∃ nn, Rd X.D X.rb w2 nn bs' false) ∨ ((bad = true ∨ rk.dec bs = none) ∧ Rd X.D X.rb w2 false [] true)) := by
  have hrb := hst.rb_gt
  have h1 : Only (fun j => j = X.rb ∨ j = b) w w2 := (g.only.mono fun _ _ h => .inl h).trans (hw.only.mono fun _ _ h => .inr h)
  have hwb : w'.heap[b]? = w.heap[b]? := g.only.block b hb hbr
  have hlt : w.heap.size ≤ w'.heap.size := g.only.size
  have hrlt : X.rb < w.heap.size := hst.st.lt
  have kD : w2.heap[X.D]? = w'.heap[X.D]? := hw.only.block X.D (by omega) (by omega)
  have kr : w2.heap[X.rb]? = w'.heap[X.rb]? := hw.only.block X.rb (by omega) (by omega)
  refine ⟨h1, ?_, h1.mono (fun j _ h => by omega), ?_⟩
  · intro cur e hc
    exact hw.upd cur e (hwb.trans hc)
  · rcases g.comes with ⟨hbad, x, bs', hd, hl, hx, nn', hr⟩ | ⟨hbad, hr⟩
    · refine .inl ⟨hbad, x, bs', hd, hl, ?_, nn', hr.keep kD kr⟩
      rw [hw.same]
      exact RK.holds hlt hw.cells (RK.leaf_keep hx kD fun q q1 q2 => hw.only.block q q2 (by omega))
    · exact .inr ⟨hbad, hr.keep kD kr⟩

theorem fVal_reads (v : RV) {T i o u s k m b off N : Nat} {c0 : Code} {a : Act} {w : World} {nn : Bool} {bs : List UInt8} {bad : Bool} (hv : v.ok X.P X.fx) (hst : St X a w nn bs bad)
    (hs : gt a s = .pointer (some ⟨b, off, none⟩)) (hf : FieldAt X.P T i o u (v.rk X.flex).n) (hb : Blk w b N) (hn : off + o + (v.rk X.flex).n ≤ N) (hbr : b ≠ X.rb) (hbD : (X.L ≤ b ∧ b ≠ X.D))
    (h9 : 9 < k) (hsk : s < k) (hk : k < X.M0) (hm : X.M0 ≤ m) (hN : m + v.t + 4 ≤ X.N) :
    Reads X (gRV X.G k m (sinkF T i u s k (m + v.t)) v c0) (v.rk X.flex).dec (fun w' lo hi x => Holds X.D (v.rk X.flex).m w' lo hi b (off + o) x) k m b (off + o) (off + o + (v.rk X.flex).n) a w bs bad := by
  intro Q hQ
  refine gRV_wp v hv hst h9 hk hm (by omega) fun c a1 w1 val g => ?_
  have hrb := hst.rb_gt
  have hbl : b < w.heap.size := hb.lt
  have hb1 : Blk w1 b N := hb.keep (g.only.block b hbl hbr)
  have hs1 : gt a1 s = .pointer (some ⟨b, off, none⟩) := (g.ag.keep s (by unfold Ch; omega)).trans hs
  have hsz1 : a1.tmps.size = X.N := g.ag.size.trans hst.size
  refine sinkF_wp hs1 g.val hf g.n g.one hb1 hn (by omega) (by omega) (by omega) fun a2 w2 ha2 hw2 => ?_
  obtain ⟨h1, h2, h3, h4⟩ := g.store hst hw2 hbl hbr hbD
  have hlen : val.cells.toList.length = (v.rk X.flex).n := by simpa using g.n
  have h2' := h2
  rw [hlen] at h2'
  have hag : Ag (Ch X.M0 k m) a a2 := g.ag.trans (ha2.tm (by omega))
  have hst2 := hst.act hag h9 (by omega) (by omega)
  rcases h4 with ⟨hbad, x, bs', hd, hl, hx, nn', hr⟩ | ⟨hbad, hr⟩
  · exact hQ.good a2 w2 x bs' nn' hbad hd hag h1 h2' (hst2.world hr hl h3) hx
  · exact hQ.fail a2 w2 hbad hag h1 h2' (hst2.world hr (by simp) h3)

theorem eVal_reads (v : RV) {TS sz eb : Nat} {zs : List Value} (hS : Sl X.P TS sz eb zs) {u ls is k m b N n c i : Nat} {ik : IntKind} {c0 : Code} {a : Act} {w : World} {nn : Bool} {bs : List UInt8} {bad : Bool} (hv : v.ok X.P X.fx) (hst : St X a w nn bs bad)
    (hs : gt a ls = .slice (some ⟨b, 0, none⟩) n c) (hi : gt a is = .int ik i) (hin : i < n) (hu : ∃ inf, X.P.info? u = some inf ∧ inf.size = sz) (hsz : (v.rk X.flex).n = sz) (hb : Blk w b N) (hn : i * sz + sz ≤ N) (hbr : b ≠ X.rb) (hbD : (X.L ≤ b ∧ b ≠ X.D))
    (h9 : 9 < k) (hsk : ls < k) (hik : is < k) (hk : k < X.M0) (hm : X.M0 ≤ m) (hN : m + v.t + 4 ≤ X.N) :
    Reads X (gRV X.G k m (sinkI TS u ls is k (m + v.t)) v c0) (v.rk X.flex).dec (fun w' lo hi x => Holds X.D (v.rk X.flex).m w' lo hi b (i * sz) x) k m b (i * sz) (i * sz + sz) a w bs bad := by
  intro Q hQ
  refine gRV_wp v hv hst h9 hk hm (by omega) fun c a1 w1 val g => ?_
  have hrb := hst.rb_gt
  have hbl : b < w.heap.size := hb.lt
  have hb1 : Blk w1 b N := hb.keep (g.only.block b hbl hbr)
  have hs1 := (g.ag.keep ls (by unfold Ch; omega)).trans hs
  have hi1 := (g.ag.keep is (by unfold Ch; omega)).trans hi
  have hsz1 : a1.tmps.size = X.N := g.ag.size.trans hst.size
  refine sinkI_wp hS hs1 hi1 hin g.val hu (g.n.trans hsz) g.one hb1 hn (by omega) (by omega) (by omega) (by omega) fun a2 w2 ha2 hw2 => ?_
  obtain ⟨h1, h2, h3, h4⟩ := g.store hst hw2 hbl hbr hbD
  have hlen : val.cells.toList.length = sz := by have := g.n; simp; omega
  have h2' := h2
  rw [hlen] at h2'
  have hag : Ag (Ch X.M0 k m) a a2 := g.ag.trans (ha2.tm (by omega))
  have hst2 := hst.act hag h9 (by omega) (by omega)
  rcases h4 with ⟨hbad, x, bs', hd, hl, hx, nn', hr⟩ | ⟨hbad, hr⟩
  · exact hQ.good a2 w2 x bs' nn' hbad hd hag h1 h2' (hst2.world hr hl h3) hx
  · exact hQ.fail a2 w2 hbad hag h1 h2' (hst2.world hr (by simp) h3)
end
end Go.Proofs.YtfimokbgggimmaaDoor.Kf
