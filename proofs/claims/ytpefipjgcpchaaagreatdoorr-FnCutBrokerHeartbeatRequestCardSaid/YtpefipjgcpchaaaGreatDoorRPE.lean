/- Reading, the second part: the code that stores what was read, in a field or in a list's place; lists. -/
import Derived.Test.YtpefipjgcpchaaaGreatDoorRPB
namespace Go.Proofs.YtpefipjgcpchaaaGreatDoorR.Kf
set_option linter.unusedVariables false
set_option linter.unusedSimpArgs false
open Go Go.RowKit

section
variable {P : Program} {a : Act} {w : World}

theorem evT (a : Act) (j : Nat) : a.eval (.tmp j) = gt a j := rfl

theorem runs_cmp (op : BinOp) (f : Int → Int → Bool) (hop : (op = .lss ∧ f = fun x y => decide (x < y)) ∨ (op = .geq ∧ f = fun x y => decide (x ≥ y)) ∨ (op = .gtr ∧ f = fun x y => decide (x > y)) ∨ (op = .leq ∧ f = fun x y => decide (x ≤ y)) ∨ (op = .eql ∧ f = fun x y => x == y))
    {t t2 : Nat} {x y : Operand} {k : IntKind} {p q : Int} (hx : a.eval x = .int k p) (hy : a.eval y = .int k q) : Runs P a w (.binOp op t x y t2) (.bool (f p q)) w := by
  intro o h
  rcases hop with ⟨rfl, rfl⟩ | ⟨rfl, rfl⟩ | ⟨rfl, rfl⟩ | ⟨rfl, rfl⟩ | ⟨rfl, rfl⟩ <;> simp [execOp, h, hx, hy, eqGuard_at_int, binOp_lss, binOp_geq, binOp_gtr, binOp_leq, binOp_eql, eqGuard_lss, eqGuard_geq, eqGuard_gtr, eqGuard_leq]

theorem runs_add {t t2 : Nat} {x y : Operand} {k : IntKind} {p q : Int} (hx : a.eval x = .int k p) (hy : a.eval y = .int k q) : Runs P a w (.binOp .add t x y t2) (.int k (k.wrap (p + q))) w := by
  intro o h
  simp [execOp, h, hx, hy, eqGuard_add, binOp_add, Op.intArith]

theorem runs_not {t : Nat} {x : Operand} {b : Bool} (hx : a.eval x = .bool b) : Runs P a w (.unOp .not t x) (.bool (!b)) w := by
  intro o h
  simp [execOp, h, hx, Op.unary]

/-- A slice type of things of so many cells and octets. -/
structure Sl (P : Program) (TS sz eb : Nat) (zs : List Value) : Prop where
  ex : ∃ E, P.underlying TS = some (.slice E) ∧ ∃ inf, P.info? E = some inf ∧ inf.size = sz ∧ inf.bytes = eb ∧ ∃ z, inf.zero = some z ∧ z.cells.toList = zs
  one : One P TS
  sz0 : 0 < sz
  len : zs.length = sz

theorem runs_indexAddr {TS sz eb : Nat} {zs : List Value} (hS : Sl P TS sz eb zs) {x y : Operand} {p : Addr} {n c : Nat} {k : IntKind} {i : Int} (hx : a.eval x = .slice (some p) n c) (hy : a.eval y = .int k i) (h0 : 0 ≤ i) (h1 : i < n) :
    Runs P a w (.indexAddr TS x y) (.pointer (some (p.add (i.toNat * sz)))) w := by
  intro o h
  obtain ⟨E, hT, inf, hi, hs, _⟩ := hS.ex
  simp [execOp, h, hx, hy, Instr.indexAt, run_underlying hT, asIntOf, sizeOf, typeInfo, hi, hs, h0, h1]

/-- x[:0] of an empty slice without room. -/
theorem runs_slice0 {TS sz eb : Nat} {zs : List Value} (hS : Sl P TS sz eb zs) {x : Operand} {p : Option Addr} (hx : a.eval x = .slice p 0 0) :
    Runs P a w (.slice TS x none (some (.const (.int .i64 0))) none) (.slice p 0 0) w := by
  intro o h
  obtain ⟨E, hT, inf, hi, hs, _⟩ := hS.ex
  have e0 : a.eval (.const (.int .i64 0)) = .int .i64 0 := rfl
  cases p <;> simp [execOp, h, hx, e0, Instr.sliceAt, run_underlying hT, Instr.slice, Instr.sliceBounds, Instr.sliceBound, asIntOf, sizeOf, typeInfo, hi]

/-- []T{}. -/
theorem runs_empty {TS sz eb : Nat} {zs : List Value} (hS : Sl P TS sz eb zs) : ∃ e, Runs P a w (.buildSlice TS 0 #[]) (.slice (some ⟨w.heap.size, 0, none⟩) 0 0) (w.alloc (.cells #[] e)) := by
  obtain ⟨E, hT, inf, hi, hs, _⟩ := hS.ex
  refine ⟨E, fun o h => ?_⟩
  simp [execOp, h, Instr.buildSlice, run_underlying hT, sizeOf, typeInfo, hi, Instr.fill, newRow, Array.range_zero']

theorem grownCap_lt (w : World) (need old : Nat) (e : TypeId) : need ≤ grownCap w need old e := grownCap_ge w need old e

theorem zeroCells_get (z : Array Value) (n : Nat) (j i : Nat) (hj : j < n) (hi : i < z.size) : (Builtin.zeroCells z n)[j * z.size + i]? = z[i]? := by
  have hlt : j * z.size + i < n * z.size := by
    have : (j + 1) * z.size ≤ n * z.size := Nat.mul_le_mul_right _ hj
    rw [Nat.add_mul, Nat.one_mul] at this
    omega
  simp only [Builtin.zeroCells]
  rw [Array.getElem?_map, Array.getElem?_range, if_pos hlt]
  simp only [Option.map_some]
  have : (j * z.size + i) % z.size = i := by
    rw [Nat.add_comm, Nat.add_mul_mod_self_right, Nat.mod_eq_of_lt hi]
  rw [this, Array.getElem?_eq_getElem hi, getElem!_pos z i hi]

/-- append(a, make([]T, l)...), a empty and without room, l > 0: a new list of so many things as they are at first. -/
theorem runs_make {TS t2 sz eb : Nat} {zs : List Value} (hS : Sl P TS sz eb zs) (h2 : P.underlying t2 = some (.int .i32)) {x y : Operand} {p : Option Addr} {l : Nat} (hx : a.eval x = .slice p 0 0) (hy : a.eval y = .int .i32 l)
    (h0 : 0 < l) (hl : l ≤ lim) (hb : eb ≤ 2048) :
    ∃ (c : Nat) (w' : World), Runs P a w (.call ⟨.builtin .append, #[x, y], #[TS, t2]⟩) (.slice (some ⟨w.heap.size, 0, none⟩) l c) w' ∧ l ≤ c ∧ Only (fun _ => False) w w' ∧ w'.heap.size = w.heap.size + 1 ∧ Blk w' w.heap.size (c * sz) ∧
      ∀ i, i < l → Cells w' w.heap.size (i * sz) zs := by
  obtain ⟨E, hT, inf, hi, hs, he, z, hz, hzs⟩ := hS.ex
  have hzn : z.cells.size = sz := by rw [← hS.len, ← hzs]; simp
  have hwrap : IntKind.i64.wrap (l : Int) = l := by unfold lim at hl; exact IntWalk.i64_in _ (by omega)
  have hby : l * eb ≤ 281474976710656 := by
    have : l * eb ≤ lim * 2048 := Nat.mul_le_mul hl hb
    unfold lim at this; omega
  have hby2 : ¬ ((l : Int) * (eb : Int) > 281474976710656) := by
    have : ((l * eb : Nat) : Int) ≤ 281474976710656 := by omega
    rw [Int.natCast_mul] at this
    omega
  have hcap : Builtin.nextslicecap l 0 = l := by unfold Builtin.nextslicecap; rw [if_pos (by omega)]
  have hmax : ¬ ((l : Int) > 9223372036854775807) := by unfold lim at hl; omega
  let c := grownCap w l 0 E
  have hc : l ≤ c := grownCap_ge w l 0 E
  refine ⟨c, { w with drawn := w.drawn + 1, heap := w.heap.push (.cells (Builtin.zeroCells z.cells l ++ Builtin.zeroCells z.cells (c - l)) E) }, ?_, hc, ?_, ?_, ?_, ?_⟩
  · intro o h
    have n1 : ¬ ((l : Int) < 0) := by omega
    have n2 : ¬ (281474976710656 < (l : Int) * (eb : Int)) := by omega
    have n3 : ¬ l = 0 := by omega
    have n4 : ¬ (9223372036854775807 < (l : Int)) := by omega
    have n5 : ¬ (281474976710656 < l * eb) := by omega
    have n6 : ¬ sz = 0 := by have := hS.sz0; omega
    have n8 : ¬ (l * sz = 0) := by have := Nat.mul_pos h0 hS.sz0; omega
    have n7 : (Question.appendCap l 0 E).forced = false := rfl
    have hold : ∀ w1, (Builtin.firstCells sz 0 (.slice p 0 0)).run P w1 = .ok #[] w1 := by
      intro w1; cases p <;> simp [Builtin.firstCells, loadCells, loadCellsFrom]
    simp [execOp, h, resolve, invoke, builtin, hx, hy, Builtin.append_, run_underlying hT, run_underlying h2, sizeOf, typeInfo, hi, hs, asInt, asIntOf, hwrap, he, zeroValue, hz, hold, n1, n2, n3, n4, n5, n6, hcap, n7, newRow]
    rw [if_neg n8]
    rfl
  · exact ⟨rfl, rfl, rfl, by simp, fun k hk _ => by
      show (w.heap.push _)[k]? = _
      rw [Array.getElem?_push, if_neg (by omega)]⟩
  · show (w.heap.push _).size = _
    simp
  · refine ⟨Builtin.zeroCells z.cells l ++ Builtin.zeroCells z.cells (c - l), E, by simp, ?_⟩
    simp only [Array.size_append, Builtin.zeroCells, Array.size_map, Array.size_range, hzn]
    rw [← Nat.add_mul, Nat.add_sub_cancel' hc]
  · intro i hil j v hv
    have hj : j < z.cells.size := by
      have := (List.getElem?_eq_some_iff.1 hv).1
      rw [hS.len] at this; omega
    have hlt : i * sz + j < (Builtin.zeroCells z.cells l).size := by
      simp only [Builtin.zeroCells, Array.size_map, Array.size_range, hzn]
      have : (i + 1) * sz ≤ l * sz := Nat.mul_le_mul_right _ hil
      rw [Nat.add_mul, Nat.one_mul] at this
      omega
    simp only [World.cell?, Array.getElem?_push_size]
    simp only [Option.isSome_none, Bool.false_eq_true, if_false]
    rw [Array.getElem?_append_left hlt]
    have := zeroCells_get z.cells l i j hil hj
    rw [hzn] at this
    rw [this, ← Array.getElem?_toList, hzs]
    exact hv
end

/-! ### where what was read goes -/

def sinkF (T i u s k m : Nat) (c0 : Code) : Code :=
  reg [⟨some m, .move (.tmp s), none⟩, ⟨some (m + 1), .move (.tmp k), none⟩, ⟨some (m + 2), .nilCheck (.tmp m), none⟩, ⟨some (m + 3), .fieldAddr T (.tmp (m + 2)) i, none⟩, ⟨none, .store u (.tmp (m + 3)) (.tmp (m + 1)), none⟩] c0

def sinkI (TS u ls is k m : Nat) (c0 : Code) : Code :=
  reg [⟨some m, .move (.tmp ls), none⟩, ⟨some (m + 1), .move (.tmp is), none⟩, ⟨some (m + 2), .move (.tmp k), none⟩, ⟨some (m + 3), .indexAddr TS (.tmp m) (.tmp (m + 1)), none⟩, ⟨none, .store u (.tmp (m + 3)) (.tmp (m + 2)), none⟩] c0

def sinkFb (T i u ub s k m : Nat) (c0 : Code) : Code :=
  reg [⟨some m, .move (.tmp s), none⟩, ⟨some (m + 1), .load ub (.tmp k), none⟩, ⟨some (m + 2), .nilCheck (.tmp m), none⟩, ⟨some (m + 3), .fieldAddr T (.tmp (m + 2)) i, none⟩, ⟨none, .store u (.tmp (m + 3)) (.tmp (m + 1)), none⟩] c0

def sinkIb (TS u ub ls is k m : Nat) (c0 : Code) : Code :=
  reg [⟨some m, .move (.tmp ls), none⟩, ⟨some (m + 1), .move (.tmp is), none⟩, ⟨some (m + 2), .load ub (.tmp k), none⟩, ⟨some (m + 3), .indexAddr TS (.tmp m) (.tmp (m + 1)), none⟩, ⟨none, .store u (.tmp (m + 3)) (.tmp (m + 2)), none⟩] c0
def snkF (bx : Option Nat) (T i u s k m : Nat) (c0 : Code) : Code :=
  match bx with
  | none => sinkF T i u s k m c0
  | some ub => sinkFb T i u ub s k m c0
def snkI (bx : Option Nat) (TS u ls is k m : Nat) (c0 : Code) : Code :=
  match bx with
  | none => sinkI TS u ls is k m c0
  | some ub => sinkIb TS u ub ls is k m c0

section
variable {P : Program} {Q : Exit → Act → World → Prop}

theorem Ag.gt {S : Nat → Prop} {a b : Act} (h : Ag S a b) {j : Nat} (hj : ¬ S j) : gt b j = gt a j := h.keep j hj

/-- Temporaries from m on. -/
def Tm (m j : Nat) : Prop := m ≤ j

theorem Ag.tm {M0 k m m' : Nat} {a b : Act} (h : Ag (Tm m') a b) (hm : m ≤ m') : Ag (Ch M0 k m) a b := h.mono fun j hj => by unfold Tm at hj; unfold Ch; omega

theorem sinkF_wp {T i u s k m o n b off N : Nat} {c0 : Code} {a : Act} {w : World} {v : Value} (hs : gt a s = .pointer (some ⟨b, off, none⟩)) (hk : gt a k = v) (hf : FieldAt P T i o u n)
    (hv : v.cells.size = n) (h1 : ∀ c ∈ v.cells.toList, c.oneCell' = true) (hb : Blk w b N) (hn : off + o + n ≤ N) (hsm : s < m) (hkm : k < m) (hN : m + 4 ≤ a.tmps.size)
    (h : ∀ a' w', Ag (Tm m) a a' → Wr b (off + o) v.cells.toList w w' → Q .normal a' w') : (sinkF T i u s k m c0).wp P Q a w := by
  refine wp_reg (wpC_val (runs_move _) (wpC_val (runs_move _) ?_))
  have z0 : m < a.tmps.size := by omega
  have g1 := (Ag.refl (Tm m) a).put (d := m) (by unfold Tm; omega) z0 (a.eval (.tmp s))
  have z1 : m + 1 < (a.put (some m) (a.eval (.tmp s))).tmps.size := by rw [g1.size]; omega
  have e1 : (a.put (some m) (a.eval (.tmp s))).eval (.tmp k) = v := by
    rw [evT, gt_put z0, if_neg (by omega)]; exact hk
  rw [e1]
  have g2 := g1.put (d := m + 1) (by unfold Tm; omega) z1 v
  generalize hA : (a.put (some m) (a.eval (.tmp s))).put (some (m + 1)) v = A at g2
  have am : gt A m = .pointer (some ⟨b, off, none⟩) := by
    rw [← hA, gt_put z1, if_neg (by omega), gt_put z0, if_pos rfl, evT]; exact hs
  have am1 : gt A (m + 1) = v := by rw [← hA, gt_put z1, if_pos rfl]
  have z2 : m + 2 < A.tmps.size := by rw [g2.size]; omega
  refine wpC_val (runs_nilCheck (p := ⟨b, off, none⟩) am) ?_
  have g3 := g2.put (d := m + 2) (by unfold Tm; omega) z2 (.pointer (some ⟨b, off, none⟩))
  have z3 : m + 3 < (A.put (some (m + 2)) (.pointer (some ⟨b, off, none⟩))).tmps.size := by rw [g3.size]; omega
  refine wpC_val (runs_fieldAddr hf (p := ⟨b, off, none⟩) (by rw [evT, gt_put z2, if_pos rfl])) ?_
  have g4 := g3.put (d := m + 3) (by unfold Tm; omega) z3 (.pointer (some ((⟨b, off, none⟩ : Addr).add o)))
  rw [Addr.add_lit] at g4 ⊢
  obtain ⟨w', hr, hw⟩ := runs_storeN (P := P) (a := (A.put (some (m + 2)) (.pointer (some ⟨b, off, none⟩))).put (some (m + 3)) (.pointer (some ⟨b, off + o, none⟩))) (u := u) (x := .tmp (m + 3)) (y := .tmp (m + 1)) (b := b) (o := off + o) (v := v)
    (by rw [evT, gt_put z3, if_pos rfl]) (by rw [evT, gt_put z3, if_neg (by omega), gt_put z2, if_neg (by omega)]; exact am1) (by obtain ⟨inf, hi, hz⟩ := hf.sz; exact ⟨inf, hi, hz.trans hv.symm⟩) h1 hb (by omega)
  exact wpC_skip hr (wpC_nil (h _ w' g4 hw))

theorem sinkI_wp {TS sz eb : Nat} {zs : List Value} (hS : Sl P TS sz eb zs) {u ls is k m b N n c : Nat} {c0 : Code} {a : Act} {w : World} {v : Value} {ik : IntKind} {i : Nat} (hs : gt a ls = .slice (some ⟨b, 0, none⟩) n c) (hi : gt a is = .int ik i) (hin : i < n) (hk : gt a k = v)
    (hu : ∃ inf, P.info? u = some inf ∧ inf.size = sz) (hv : v.cells.size = sz) (h1 : ∀ c ∈ v.cells.toList, c.oneCell' = true) (hb : Blk w b N) (hn : i * sz + sz ≤ N) (hsm : ls < m) (him : is < m) (hkm : k < m) (hN : m + 4 ≤ a.tmps.size)
    (h : ∀ a' w', Ag (Tm m) a a' → Wr b (i * sz) v.cells.toList w w' → Q .normal a' w') : (sinkI TS u ls is k m c0).wp P Q a w := by
  refine wp_reg (wpC_val (runs_move _) (wpC_val (runs_move _) (wpC_val (runs_move _) ?_)))
  have z0 : m < a.tmps.size := by omega
  have g1 := (Ag.refl (Tm m) a).put (d := m) (by unfold Tm; omega) z0 (a.eval (.tmp ls))
  have z1 : m + 1 < (a.put (some m) (a.eval (.tmp ls))).tmps.size := by rw [g1.size]; omega
  have e1 : (a.put (some m) (a.eval (.tmp ls))).eval (.tmp is) = .int ik i := by
    rw [evT, gt_put z0, if_neg (by omega)]; exact hi
  rw [e1]
  have g2 := g1.put (d := m + 1) (by unfold Tm; omega) z1 (.int ik i)
  generalize hA : (a.put (some m) (a.eval (.tmp ls))).put (some (m + 1)) (.int ik i) = A at g2
  have z2 : m + 2 < A.tmps.size := by rw [g2.size]; omega
  have am : gt A m = .slice (some ⟨b, 0, none⟩) n c := by
    rw [← hA, gt_put z1, if_neg (by omega), gt_put z0, if_pos rfl, evT]; exact hs
  have am1 : gt A (m + 1) = .int ik i := by rw [← hA, gt_put z1, if_pos rfl]
  have ak : A.eval (.tmp k) = v := by rw [evT, g2.keep k (by unfold Tm; omega)]; exact hk
  rw [ak]
  have g3 := g2.put (d := m + 2) (by unfold Tm; omega) z2 v
  have z3 : m + 3 < (A.put (some (m + 2)) v).tmps.size := by rw [g3.size]; omega
  refine wpC_val (runs_indexAddr hS (p := ⟨b, 0, none⟩) (n := n) (c := c) (k := ik) (i := i) (by rw [evT, gt_put z2, if_neg (by omega)]; exact am) (by rw [evT, gt_put z2, if_neg (by omega)]; exact am1) (by omega) (by omega)) ?_
  have g4 := g3.put (d := m + 3) (by unfold Tm; omega) z3 (.pointer (some ((⟨b, 0, none⟩ : Addr).add ((i : Int).toNat * sz))))
  rw [Addr.add_lit, Int.toNat_natCast, Nat.zero_add] at g4 ⊢
  obtain ⟨w', hr, hw⟩ := runs_storeN (P := P) (a := (A.put (some (m + 2)) v).put (some (m + 3)) (.pointer (some ⟨b, i * sz, none⟩))) (u := u) (x := .tmp (m + 3)) (y := .tmp (m + 2)) (b := b) (o := i * sz) (v := v)
    (by rw [evT, gt_put z3, if_pos rfl]) (by rw [evT, gt_put z3, if_neg (by omega), gt_put z2, if_pos rfl]) (by obtain ⟨inf, hi, hz⟩ := hu; exact ⟨inf, hi, hz.trans hv.symm⟩) h1 hb (by omega)
  exact wpC_skip hr (wpC_nil (h _ w' g4 hw))
theorem sinkFb_wp {P : Program} {Q : Exit → Act → World → Prop} {T i u ub s k m o n b off N q : Nat} {c0 : Code} {a : Act} {w : World} {cs : List Value} (hB : BxT P ub n) (hs : gt a s = .pointer (some ⟨b, off, none⟩)) (hk : gt a k = .pointer (some ⟨q, 0, none⟩)) (hc : Cells w q 0 cs) (hf : FieldAt P T i o u n)
    (hv : cs.length = n) (h1 : ∀ c ∈ cs, c.oneCell' = true) (hb : Blk w b N) (hn : off + o + n ≤ N) (hsm : s < m) (hkm : k < m) (hN : m + 4 ≤ a.tmps.size)
    (h : ∀ a' w', Ag (Tm m) a a' → Wr b (off + o) cs w w' → Q .normal a' w') : (sinkFb T i u ub s k m c0).wp P Q a w := by
  have z0 : m < a.tmps.size := by omega
  refine wp_reg (wpC_val (runs_move _) (wpC_val (runs_loadB hB (cs := cs) (by rw [evT, gt_put z0, if_neg (by omega)]; exact hk) hv hc) ?_))
  have g1 := (Ag.refl (Tm m) a).put (d := m) (by unfold Tm; omega) z0 (a.eval (.tmp s))
  have z1 : m + 1 < (a.put (some m) (a.eval (.tmp s))).tmps.size := by rw [g1.size]; omega
  have g2 := g1.put (d := m + 1) (by unfold Tm; omega) z1 (.agg cs.toArray)
  generalize hA : (a.put (some m) (a.eval (.tmp s))).put (some (m + 1)) (.agg cs.toArray) = A at g2
  have am : gt A m = .pointer (some ⟨b, off, none⟩) := by
    rw [← hA, gt_put z1, if_neg (by omega), gt_put z0, if_pos rfl, evT]; exact hs
  have am1 : gt A (m + 1) = .agg cs.toArray := by rw [← hA, gt_put z1, if_pos rfl]
  have z2 : m + 2 < A.tmps.size := by rw [g2.size]; omega
  refine wpC_val (runs_nilCheck (p := ⟨b, off, none⟩) am) ?_
  have g3 := g2.put (d := m + 2) (by unfold Tm; omega) z2 (.pointer (some ⟨b, off, none⟩))
  have z3 : m + 3 < (A.put (some (m + 2)) (.pointer (some ⟨b, off, none⟩))).tmps.size := by rw [g3.size]; omega
  refine wpC_val (runs_fieldAddr hf (p := ⟨b, off, none⟩) (by rw [evT, gt_put z2, if_pos rfl])) ?_
  have g4 := g3.put (d := m + 3) (by unfold Tm; omega) z3 (.pointer (some ((⟨b, off, none⟩ : Addr).add o)))
  rw [Addr.add_lit] at g4 ⊢
  have hcs : (Value.agg cs.toArray).cells.size = n := by show cs.toArray.size = n; simpa using hv
  obtain ⟨w', hr, hw⟩ := runs_storeN (P := P) (a := (A.put (some (m + 2)) (.pointer (some ⟨b, off, none⟩))).put (some (m + 3)) (.pointer (some ⟨b, off + o, none⟩))) (u := u) (x := .tmp (m + 3)) (y := .tmp (m + 1)) (b := b) (o := off + o) (v := .agg cs.toArray)
    (by rw [evT, gt_put z3, if_pos rfl]) (by rw [evT, gt_put z3, if_neg (by omega), gt_put z2, if_neg (by omega)]; exact am1) (by obtain ⟨inf, hi, hz⟩ := hf.sz; exact ⟨inf, hi, hz.trans hcs.symm⟩) (by intro c hc'; exact h1 c (by simpa [Value.cells] using hc')) hb (by omega)
  exact wpC_skip hr (wpC_nil (h _ w' g4 (by simpa [Value.cells] using hw)))
theorem sinkIb_wp {ub q : Nat} {cs : List Value} {TS sz eb : Nat} {zs : List Value} (hS : Sl P TS sz eb zs) {u ls is k m b N n c : Nat} {c0 : Code} {a : Act} {w : World} {ik : IntKind} {i : Nat} (hs : gt a ls = .slice (some ⟨b, 0, none⟩) n c) (hi : gt a is = .int ik i) (hin : i < n) (hB : BxT P ub sz) (hk : gt a k = .pointer (some ⟨q, 0, none⟩)) (hc : Cells w q 0 cs)
    (hu : ∃ inf, P.info? u = some inf ∧ inf.size = sz) (hv : cs.length = sz) (h1 : ∀ c ∈ cs, c.oneCell' = true) (hb : Blk w b N) (hn : i * sz + sz ≤ N) (hsm : ls < m) (him : is < m) (hkm : k < m) (hN : m + 4 ≤ a.tmps.size)
    (h : ∀ a' w', Ag (Tm m) a a' → Wr b (i * sz) cs w w' → Q .normal a' w') : (sinkIb TS u ub ls is k m c0).wp P Q a w := by
  refine wp_reg (wpC_val (runs_move _) (wpC_val (runs_move _) ?_))
  have z0 : m < a.tmps.size := by omega
  have g1 := (Ag.refl (Tm m) a).put (d := m) (by unfold Tm; omega) z0 (a.eval (.tmp ls))
  have z1 : m + 1 < (a.put (some m) (a.eval (.tmp ls))).tmps.size := by rw [g1.size]; omega
  have e1 : (a.put (some m) (a.eval (.tmp ls))).eval (.tmp is) = .int ik i := by
    rw [evT, gt_put z0, if_neg (by omega)]; exact hi
  rw [e1]
  have g2 := g1.put (d := m + 1) (by unfold Tm; omega) z1 (.int ik i)
  generalize hA : (a.put (some m) (a.eval (.tmp ls))).put (some (m + 1)) (.int ik i) = A at g2
  have z2 : m + 2 < A.tmps.size := by rw [g2.size]; omega
  have am : gt A m = .slice (some ⟨b, 0, none⟩) n c := by
    rw [← hA, gt_put z1, if_neg (by omega), gt_put z0, if_pos rfl, evT]; exact hs
  have am1 : gt A (m + 1) = .int ik i := by rw [← hA, gt_put z1, if_pos rfl]
  have ak : A.eval (.tmp k) = .pointer (some ⟨q, 0, none⟩) := by rw [evT, g2.keep k (by unfold Tm; omega)]; exact hk
  refine wpC_val (runs_loadB hB (cs := cs) ak hv hc) ?_
  have hcs : (Value.agg cs.toArray).cells.size = sz := by show cs.toArray.size = sz; simpa using hv
  have hcl : (Value.agg cs.toArray).cells.toList = cs := by show cs.toArray.toList = cs; simp
  rw [← hcl] at h1
  generalize hV : Value.agg cs.toArray = v at hcs hcl h1
  have g3 := g2.put (d := m + 2) (by unfold Tm; omega) z2 v
  have z3 : m + 3 < (A.put (some (m + 2)) v).tmps.size := by rw [g3.size]; omega
  refine wpC_val (runs_indexAddr hS (p := ⟨b, 0, none⟩) (n := n) (c := c) (k := ik) (i := i) (by rw [evT, gt_put z2, if_neg (by omega)]; exact am) (by rw [evT, gt_put z2, if_neg (by omega)]; exact am1) (by omega) (by omega)) ?_
  have g4 := g3.put (d := m + 3) (by unfold Tm; omega) z3 (.pointer (some ((⟨b, 0, none⟩ : Addr).add ((i : Int).toNat * sz))))
  rw [Addr.add_lit, Int.toNat_natCast, Nat.zero_add] at g4 ⊢
  obtain ⟨w', hr, hw⟩ := runs_storeN (P := P) (a := (A.put (some (m + 2)) v).put (some (m + 3)) (.pointer (some ⟨b, i * sz, none⟩))) (u := u) (x := .tmp (m + 3)) (y := .tmp (m + 2)) (b := b) (o := i * sz) (v := v)
    (by rw [evT, gt_put z3, if_pos rfl]) (by rw [evT, gt_put z3, if_neg (by omega), gt_put z2, if_pos rfl]) (by obtain ⟨inf, hi, hz⟩ := hu; exact ⟨inf, hi, hz.trans hcs.symm⟩) h1 hb (by omega)
  exact wpC_skip hr (wpC_nil (h _ w' g4 (by rw [hcl] at hw; exact hw)))

theorem snkF_wp {bx : Option Nat} {T i u s k m o n b off N lo : Nat} {c0 : Code} {a : Act} {w : World} {v : Value} (hB : ∀ ub, bx = some ub → BxT P ub n) (hs : gt a s = .pointer (some ⟨b, off, none⟩)) (hk : InV bx a k lo w v) (hf : FieldAt P T i o u n)
    (hv : v.cells.size = n) (h1 : ∀ c ∈ v.cells.toList, c.oneCell' = true) (hb : Blk w b N) (hn : off + o + n ≤ N) (hsm : s < m) (hkm : k < m) (hN : m + 4 ≤ a.tmps.size)
    (h : ∀ a' w', Ag (Tm m) a a' → Wr b (off + o) v.cells.toList w w' → Q .normal a' w') : (snkF bx T i u s k m c0).wp P Q a w := by
  cases bx with
  | none => exact sinkF_wp hs hk hf hv h1 hb hn hsm hkm hN h
  | some ub =>
    obtain ⟨q, hq, _, _, hc⟩ := hk
    exact sinkFb_wp (hB ub rfl) hs hq hc hf (by simpa using hv) h1 hb hn hsm hkm hN h
theorem snkI_wp {bx : Option Nat} {TS sz eb lo : Nat} {zs : List Value} (hS : Sl P TS sz eb zs) {u ls is k m b N n c : Nat} {c0 : Code} {a : Act} {w : World} {v : Value} {ik : IntKind} {i : Nat} (hB : ∀ ub, bx = some ub → BxT P ub sz) (hs : gt a ls = .slice (some ⟨b, 0, none⟩) n c) (hi : gt a is = .int ik i) (hin : i < n) (hk : InV bx a k lo w v)
    (hu : ∃ inf, P.info? u = some inf ∧ inf.size = sz) (hv : v.cells.size = sz) (h1 : ∀ c ∈ v.cells.toList, c.oneCell' = true) (hb : Blk w b N) (hn : i * sz + sz ≤ N) (hsm : ls < m) (him : is < m) (hkm : k < m) (hN : m + 4 ≤ a.tmps.size)
    (h : ∀ a' w', Ag (Tm m) a a' → Wr b (i * sz) v.cells.toList w w' → Q .normal a' w') : (snkI bx TS u ls is k m c0).wp P Q a w := by
  cases bx with
  | none => exact sinkI_wp hS hs hi hin hk hu hv h1 hb hn hsm him hkm hN h
  | some ub =>
    obtain ⟨q, hq, _, _, hc⟩ := hk
    exact sinkIb_wp hS hs hi hin (hB ub rfl) hq hc hu (by simpa using hv) h1 hb hn hsm him hkm hN h
end

/-! ### what a piece of code reads -/

/-- What must hold of Q behind a piece of code that reads by dc, from the slots k, m on, into the cells from lo on and below hi of the block b. -/
structure RQ (X : RX) (dc : List UInt8 → Option (Val × List UInt8)) (H : World → Nat → Nat → Val → Prop) (k m b lo hi : Nat) (a : Act) (w : World) (bs : List UInt8) (bad : Bool) (Q : Exit → Act → World → Prop) : Prop where
  good : ∀ a' w' x bs' nn', bad = false → dc bs = some (x, bs') → Ag (Ch X.M0 k m) a a' → Only (fun j => j = X.rb ∨ j = b) w w' → Upd b lo hi w w' → St X a' w' nn' bs' false → H w' w.heap.size w'.heap.size x → Q .normal a' w'
  fail : ∀ a' w', (bad = true ∨ dc bs = none) → Ag (Ch X.M0 k m) a a' → Only (fun j => j = X.rb ∨ j = b) w w' → Upd b lo hi w w' → St X a' w' false [] true → Q .normal a' w'
  ret : ∀ a' w', (bad = true ∨ dc bs = none) → a'.defers = [] → IsErr true (gt a' 6) → Only (fun j => j = X.rb ∨ j = b) w w' → Upd b lo hi w w' → Q .ret a' w'

def Reads (X : RX) (c : Code) (dc : List UInt8 → Option (Val × List UInt8)) (H : World → Nat → Nat → Val → Prop) (k m b lo hi : Nat) (a : Act) (w : World) (bs : List UInt8) (bad : Bool) : Prop :=
  ∀ Q, RQ X dc H k m b lo hi a w bs bad Q → c.wp X.P Q a w

section
variable {X : RX}

/-- What stands behind a store into another block. -/
theorem Got.store {bx : Option Nat} {rk : RK} {k kd m b o : Nat} {a a' : Act} {w w' w2 : World} {nn : Bool} {bs : List UInt8} {bad : Bool} {v : Value} (hst : St X a w nn bs bad) (g : Got X bx rk k kd m a w bs bad a' w' v) (hw : Wr b o v.cells.toList w' w2) (hb : b < w.heap.size) (hbr : b ≠ X.rb) (hbD : (X.L ≤ b ∧ b ≠ X.D)) :
    Only (fun j => j = X.rb ∨ j = b) w w2 ∧ Upd b o (o + v.cells.toList.length) w w2 ∧ Only (fun j => X.L ≤ j) w w2 ∧
    ((bad = false ∧ ∃ x bs', rk.dec bs = some (x, bs') ∧ bs'.length ≤ bs.length ∧ Holds X.D rk.m w2 w.heap.size w2.heap.size b o x ∧ ∃ nn, Rd X.D X.rb w2 nn bs' false) ∨ ((bad = true ∨ rk.dec bs = none) ∧ Rd X.D X.rb w2 false [] true)) := by
  have hrb := hst.rb_gt
  have h1 : Only (fun j => j = X.rb ∨ j = b) w w2 := (g.only.mono fun _ _ h => .inl h).trans (hw.only.mono fun _ _ h => .inr h)
  have hwb : w'.heap[b]? = w.heap[b]? := g.only.block b hb hbr
  have hlt : w.heap.size ≤ w'.heap.size := g.only.size
  have hrlt : X.rb < w.heap.size := hst.st.lt
  have kD : w2.heap[X.D]? = w'.heap[X.D]? := hw.only.block X.D (by omega) (by omega)
  have kr : w2.heap[X.rb]? = w'.heap[X.rb]? := hw.only.block X.rb (by omega) (by omega)
  refine ⟨h1, ?_, h1.mono (fun j _ h => by omega), ?_⟩
  · intro cur e hc
    exact hw.upd cur e (hwb.trans hc)
  · rcases g.comes with ⟨hbad, x, bs', hd, hl, hx, nn', hr⟩ | ⟨hbad, hr⟩
    · refine .inl ⟨hbad, x, bs', hd, hl, ?_, nn', hr.keep kD kr⟩
      rw [hw.same]
      exact RK.holds hlt hw.cells (RK.leaf_keep hx kD fun q q1 q2 => hw.only.block q q2 (by omega))
    · exact .inr ⟨hbad, hr.keep kD kr⟩

theorem fVal_reads (v : RV) {T i o u s k m b off N : Nat} {c0 : Code} {a : Act} {w : World} {nn : Bool} {bs : List UInt8} {bad : Bool} (hv : v.ok X.P X.fx) (hst : St X a w nn bs bad)
    (hs : gt a s = .pointer (some ⟨b, off, none⟩)) (hf : FieldAt X.P T i o u (v.rk X.flex).n) (hb : Blk w b N) (hn : off + o + (v.rk X.flex).n ≤ N) (hbr : b ≠ X.rb) (hbD : (X.L ≤ b ∧ b ≠ X.D))
    (h9 : 9 ≤ X.b9 ∧ X.b9 < k) (hsk : s < k) (hk : k + v.dk < X.M0) (hm : X.M0 ≤ m) (hN : m + v.t + 4 ≤ X.N) :
    Reads X (gRV X.G k m (snkF v.bx T i u s (k + v.dk) (m + v.t)) v c0) (v.rk X.flex).dec (fun w' lo hi x => Holds X.D (v.rk X.flex).m w' lo hi b (off + o) x) k m b (off + o) (off + o + (v.rk X.flex).n) a w bs bad := by
  intro Q hQ
  refine gRV_wp v hv hst h9 hk hm (by omega) fun c a1 w1 val g => ?_
  have hrb := hst.rb_gt
  have hbl : b < w.heap.size := hb.lt
  have hb1 : Blk w1 b N := hb.keep (g.only.block b hbl hbr)
  have hs1 : gt a1 s = .pointer (some ⟨b, off, none⟩) := (g.ag.keep s (by unfold Ch; omega)).trans hs
  have hsz1 : a1.tmps.size = X.N := g.ag.size.trans hst.size
  refine snkF_wp (RV.box hv X.flex) hs1 g.val hf g.n g.one hb1 hn (by omega) (by omega) (by omega) fun a2 w2 ha2 hw2 => ?_
  obtain ⟨h1, h2, h3, h4⟩ := g.store hst hw2 hbl hbr hbD
  have hlen : val.cells.toList.length = (v.rk X.flex).n := by simpa using g.n
  have h2' := h2
  rw [hlen] at h2'
  have hag : Ag (Ch X.M0 k m) a a2 := g.ag.trans (ha2.tm (by omega))
  have hst2 := hst.act hag h9 (by omega) (by omega)
  rcases h4 with ⟨hbad, x, bs', hd, hl, hx, nn', hr⟩ | ⟨hbad, hr⟩
  · exact hQ.good a2 w2 x bs' nn' hbad hd hag h1 h2' (hst2.world hr hl h3) hx
  · exact hQ.fail a2 w2 hbad hag h1 h2' (hst2.world hr (by simp) h3)

theorem eVal_reads (v : RV) {TS sz eb : Nat} {zs : List Value} (hS : Sl X.P TS sz eb zs) {u ls is k m b N n c i : Nat} {ik : IntKind} {c0 : Code} {a : Act} {w : World} {nn : Bool} {bs : List UInt8} {bad : Bool} (hv : v.ok X.P X.fx) (hst : St X a w nn bs bad)
    (hs : gt a ls = .slice (some ⟨b, 0, none⟩) n c) (hi : gt a is = .int ik i) (hin : i < n) (hu : ∃ inf, X.P.info? u = some inf ∧ inf.size = sz) (hsz : (v.rk X.flex).n = sz) (hb : Blk w b N) (hn : i * sz + sz ≤ N) (hbr : b ≠ X.rb) (hbD : (X.L ≤ b ∧ b ≠ X.D))
    (h9 : 9 ≤ X.b9 ∧ X.b9 < k) (hsk : ls < k) (hik : is < k) (hk : k + v.dk < X.M0) (hm : X.M0 ≤ m) (hN : m + v.t + 4 ≤ X.N) :
    Reads X (gRV X.G k m (snkI v.bx TS u ls is (k + v.dk) (m + v.t)) v c0) (v.rk X.flex).dec (fun w' lo hi x => Holds X.D (v.rk X.flex).m w' lo hi b (i * sz) x) k m b (i * sz) (i * sz + sz) a w bs bad := by
  intro Q hQ
  refine gRV_wp v hv hst h9 hk hm (by omega) fun c a1 w1 val g => ?_
  have hrb := hst.rb_gt
  have hbl : b < w.heap.size := hb.lt
  have hb1 : Blk w1 b N := hb.keep (g.only.block b hbl hbr)
  have hs1 := (g.ag.keep ls (by unfold Ch; omega)).trans hs
  have hi1 := (g.ag.keep is (by unfold Ch; omega)).trans hi
  have hsz1 : a1.tmps.size = X.N := g.ag.size.trans hst.size
  refine snkI_wp hS (hsz ▸ RV.box hv X.flex) hs1 hi1 hin g.val hu (g.n.trans hsz) g.one hb1 hn (by omega) (by omega) (by omega) (by omega) fun a2 w2 ha2 hw2 => ?_
  obtain ⟨h1, h2, h3, h4⟩ := g.store hst hw2 hbl hbr hbD
  have hlen : val.cells.toList.length = sz := by have := g.n; simp; omega
  have h2' := h2
  rw [hlen] at h2'
  have hag : Ag (Ch X.M0 k m) a a2 := g.ag.trans (ha2.tm (by omega))
  have hst2 := hst.act hag h9 (by omega) (by omega)
  rcases h4 with ⟨hbad, x, bs', hd, hl, hx, nn', hr⟩ | ⟨hbad, hr⟩
  · exact hQ.good a2 w2 x bs' nn' hbad hd hag h1 h2' (hst2.world hr hl h3) hx
  · exact hQ.fail a2 w2 hbad hag h1 h2' (hst2.world hr (by simp) h3)
end
end Go.Proofs.YtpefipjgcpchaaaGreatDoorR.Kf

namespace Go.Proofs.YtpefipjgcpchaaaGreatDoorR.Kf
set_option linter.unusedVariables false
set_option linter.unusedSimpArgs false
open Go Go.RowKit

theorem listDec_snoc (f : List UInt8 → Option (Val × List UInt8)) : ∀ (n : Nat) (l : List UInt8),
    listDec f (n + 1) l = match listDec f n l with | none => none | some (vs, l') => match f l' with | none => none | some (v, l'') => some (vs ++ [v], l'') := by
  intro n
  induction n with
  | zero =>
    intro l
    simp only [listDec]
    cases f l with
    | none => rfl
    | some x => obtain ⟨v, r⟩ := x; rfl
  | succ n ih =>
    intro l
    rw [listDec]
    rw [show listDec f (n + 1) l = match f l with | none => none | some (v, l) => match listDec f n l with | none => none | some (vs, l) => some (v :: vs, l) from rfl]
    cases f l with
    | none => rfl
    | some x =>
      obtain ⟨v, r⟩ := x
      simp only
      rw [ih r]
      cases listDec f n r with
      | none => rfl
      | some y =>
        obtain ⟨vs, r2⟩ := y
        simp only
        cases f r2 with
        | none => rfl
        | some z => obtain ⟨u, r3⟩ := z; rfl

theorem listDec_none (f : List UInt8 → Option (Val × List UInt8)) {i n : Nat} {l : List UInt8} (h : listDec f i l = none) (hn : i ≤ n) : listDec f n l = none := by
  induction n with
  | zero => obtain rfl : i = 0 := by omega
            exact h
  | succ n ih =>
    by_cases e : i = n + 1
    · subst e; exact h
    · rw [listDec_snoc, ih (by omega)]

theorem listDec_length (f : List UInt8 → Option (Val × List UInt8)) : ∀ (n : Nat) (l : List UInt8) (vs : List Val) (r : List UInt8), listDec f n l = some (vs, r) → vs.length = n := by
  intro n
  induction n with
  | zero => intro l vs r h; simp [listDec] at h; simp [h.1]
  | succ n ih =>
    intro l vs r h
    simp only [listDec] at h
    cases hf : f l with
    | none => rw [hf] at h; cases h
    | some x =>
      obtain ⟨v, l1⟩ := x
      rw [hf] at h
      simp only at h
      cases hg : listDec f n l1 with
      | none => rw [hg] at h; cases h
      | some y =>
        obtain ⟨us, l2⟩ := y
        rw [hg] at h
        simp at h
        rw [← h.1, List.length_cons, ih _ _ _ hg]

def gFor (G : Gn) (is ls m : Nat) (body : Code → Code) (c0 : Code) : Code :=
  .seq (reg [⟨some is, .assign (.const (.int .i32 0)), none⟩] (pc c0 [0]))
    (.block (Code.id0 (pc c0 [1])) (.loop (.seq
      (.seq (reg [⟨some m, .move (.tmp is), none⟩, ⟨some (m + 1), .move (.tmp ls), none⟩, ⟨some (m + 2), .binOp .lss G.i32 (.tmp m) (.tmp (m + 1)) G.i32, none⟩] (pc c0 [1, 0, 0, 0, 0])) (.cond (.tmp (m + 2)) .skip (.exit (Code.id0 (pc c0 [1])))))
      (.seq (.block (Code.id0 (pc c0 [1, 0, 0, 1, 0])) (body (pc c0 [1, 0, 0, 1, 0, 0])))
        (reg [⟨some (m + 3), .move (.tmp is), none⟩, ⟨some (m + 4), .binOp .add G.i32 (.tmp (m + 3)) (.const (.int .i32 1)) G.i32, none⟩, ⟨some is, .assign (.tmp (m + 4)), none⟩] (pc c0 [1, 0, 0, 1, 1]))))))

section
variable {X : RX} {Q : Exit → Act → World → Prop}

/-- The things that have been read into the list's block. -/
def Els (D : Nat) (em : M) (sz A base : Nat) (w : World) (vs : List Val) : Prop :=
  ∃ f : Nat → Nat × Nat, ∀ j v, vs[j]? = some v → base ≤ (f j).1 ∧ (f j).2 ≤ w.heap.size ∧ Holds D em w (f j).1 (f j).2 A (j * sz) v

theorem loop_wp {em : M} {sz n A cap is ls as k m : Nat} {zs : List Value} {body : Code → Code} {c0 : Code} (hemc : em.cells ≤ sz) (hzs : zs.length = sz)
    (hbody : ∀ c a w nn bs bad i, i < n → St X a w nn bs bad → gt a as = .slice (some ⟨A, 0, none⟩) n cap → gt a is = .int .i32 (i : Nat) → Blk w A (cap * sz) → Cells w A (i * sz) zs →
      Reads X (body c) (dec em.w) (fun w' lo hi x => Holds X.D em w' lo hi A (i * sz) x) k (m + 5) A (i * sz) (i * sz + sz) a w bs bad)
    {a0 : Act} {w0 : World} {nn0 : Bool} {bs0 : List UInt8} (hst0 : St X a0 w0 nn0 bs0 false) (hls : gt a0 ls = .int .i32 (n : Nat)) (has : gt a0 as = .slice (some ⟨A, 0, none⟩) n cap)
    (hA : Blk w0 A (cap * sz)) (hcap : n ≤ cap) (hcs : ∀ i, i < n → Cells w0 A (i * sz) zs) (hAD : (X.L ≤ A ∧ A ≠ X.D)) (hAr : A ≠ X.rb) (hn32 : n ≤ 2147483647)
    (h1 : as < is) (h2 : ls < is) (h3 : is < k) (h9 : 9 ≤ X.b9 ∧ X.b9 < is) (hk : k ≤ X.M0) (hm : X.M0 ≤ m) (hN : m + 5 ≤ X.N)
    (good : ∀ a' w' vs bs' nn', listDec (dec em.w) n bs0 = some (vs, bs') → Ag (Ch X.M0 is m) a0 a' → Only (fun j => j = X.rb ∨ j = A) w0 w' → St X a' w' nn' bs' false → Els X.D em sz A w0.heap.size w' vs → Q .normal a' w')
    (fail : ∀ a' w', listDec (dec em.w) n bs0 = none → Ag (Ch X.M0 is m) a0 a' → Only (fun j => j = X.rb ∨ j = A) w0 w' → St X a' w' false [] true → Q .normal a' w')
    (ret : ∀ a' w', listDec (dec em.w) n bs0 = none → a'.defers = [] → IsErr true (gt a' 6) → Only (fun j => j = X.rb ∨ j = A) w0 w' → Q .ret a' w') :
    (gFor X.G is ls m body c0).wp X.P Q a0 w0 := by
  have hrb := hst0.rb_gt
  have hAl : A < w0.heap.size := hA.lt
  have hsz0 := hst0.size
  refine wp_seq (wp_reg (wpC_val (runs_assign _) (wpC_nil ?_)))
  have zi : is < a0.tmps.size := by omega
  refine wp_block (wp_loop (fun a w => ∃ i : Nat, i ≤ n ∧ gt a is = .int .i32 (i : Nat) ∧ Ag (Ch X.M0 is m) a0 a ∧ Only (fun j => j = X.rb ∨ j = A) w0 w ∧ Blk w A (cap * sz) ∧ (∀ i', i ≤ i' → i' < n → Cells w A (i' * sz) zs) ∧
    ((∃ vs bs nn, listDec (dec em.w) i bs0 = some (vs, bs) ∧ St X a w nn bs false ∧ Els X.D em sz A w0.heap.size w vs) ∨ (listDec (dec em.w) n bs0 = none ∧ St X a w false [] true)))
    (fun a _ => n - (intOf (gt a is)).toNat) ?_ ?_)
  · have g := (Ag.refl (Ch X.M0 is m) a0).put (d := is) (by unfold Ch; omega) zi (a0.eval (.const (.int .i32 0)))
    refine ⟨0, Nat.zero_le _, by rw [gt_put zi, if_pos rfl]; rfl, g, Only.refl _ _, hA, fun i' _ h => hcs i' h, .inl ⟨[], bs0, nn0, rfl, ?_, fun _ => (0, 0), fun j v hv => by simp at hv⟩⟩
    exact hst0.act g h9 (by omega) (by omega)
  · rintro a w ⟨i, hin, hgi, hag, honly, hblk, hzc, hcase⟩
    have hsz : a.tmps.size = X.N := hag.size.trans hsz0
    have hgl : gt a ls = .int .i32 (n : Nat) := (hag.keep ls (by unfold Ch; omega)).trans hls
    have hga : gt a as = .slice (some ⟨A, 0, none⟩) n cap := (hag.keep as (by unfold Ch; omega)).trans has
    have z0 : m < a.tmps.size := by omega
    refine wp_seq (wp_seq (wp_reg (wpC_val (runs_move _) (wpC_val (runs_move _) ?_))))
    rw [evT, hgi]
    have g1 := (Ag.refl (Tm m) a).put (d := m) (by unfold Tm; omega) z0 (.int .i32 (i : Nat))
    have z1 : m + 1 < (a.put (some m) (.int .i32 (i : Nat))).tmps.size := by rw [g1.size]; omega
    have e1 : (a.put (some m) (.int .i32 (i : Nat))).eval (.tmp ls) = .int .i32 (n : Nat) := by rw [evT, gt_put z0, if_neg (by omega)]; exact hgl
    rw [e1]
    have g2 := g1.put (d := m + 1) (by unfold Tm; omega) z1 (.int .i32 (n : Nat))
    have z2 : m + 2 < ((a.put (some m) (.int .i32 (i : Nat))).put (some (m + 1)) (.int .i32 (n : Nat))).tmps.size := by rw [g2.size]; omega
    refine wpC_val (runs_cmp .lss _ (.inl ⟨rfl, rfl⟩) (k := .i32) (p := (i : Nat)) (q := (n : Nat)) (by rw [evT, gt_put z1, if_neg (by omega), gt_put z0, if_pos rfl]) (by rw [evT, gt_put z1, if_pos rfl])) (wpC_nil ?_)
    have g3 := g2.put (d := m + 2) (by unfold Tm; omega) z2 (.bool (decide (((i : Nat) : Int) < ((n : Nat) : Int))))
    have e3 : gt (((a.put (some m) (.int .i32 (i : Nat))).put (some (m + 1)) (.int .i32 (n : Nat))).put (some (m + 2)) (.bool (decide (((i : Nat) : Int) < ((n : Nat) : Int))))) (m + 2) = .bool (decide (((i : Nat) : Int) < ((n : Nat) : Int))) := by rw [gt_put z2, if_pos rfl]
    generalize ((a.put (some m) (.int .i32 (i : Nat))).put (some (m + 1)) (.int .i32 (n : Nat))).put (some (m + 2)) (.bool (decide (((i : Nat) : Int) < ((n : Nat) : Int)))) = a1 at g3 e3
    have hag1 : Ag (Ch X.M0 is m) a0 a1 := hag.trans (g3.tm (Nat.le_refl _))
    have st1 : ∀ {w nn bs bad}, St X a w nn bs bad → St X a1 w nn bs bad := fun h => h.act (k := is) (m := m) (g3.tm (Nat.le_refl _)) h9 (by omega) (by omega)
    have gi1 : gt a1 is = .int .i32 (i : Nat) := (g3.keep is (by unfold Tm; omega)).trans hgi
    have ga1 : gt a1 as = .slice (some ⟨A, 0, none⟩) n cap := (g3.keep as (by unfold Tm; omega)).trans hga
    refine wp_cond (t := decide (((i : Nat) : Int) < ((n : Nat) : Int))) e3 ?_
    by_cases hlt : i < n
    · rw [if_pos (by simp; omega)]
      refine wp_skip (wp_seq (wp_block ?_))
      -- the things' own code
      have post : ∀ (a2 : Act) (w2 : World), Ag (Ch X.M0 k (m + 5)) a1 a2 → Only (fun j => j = X.rb ∨ j = A) w w2 → Upd A (i * sz) (i * sz + sz) w w2 →
          ((∃ vs bs nn, listDec (dec em.w) (i + 1) bs0 = some (vs, bs) ∧ St X a2 w2 nn bs false ∧ Els X.D em sz A w0.heap.size w2 vs) ∨ (listDec (dec em.w) n bs0 = none ∧ St X a2 w2 false [] true)) →
          (reg [⟨some (m + 3), .move (.tmp is), none⟩, ⟨some (m + 4), .binOp .add X.G.i32 (.tmp (m + 3)) (.const (.int .i32 1)) X.G.i32, none⟩, ⟨some is, .assign (.tmp (m + 4)), none⟩] (pc c0 [1, 0, 0, 1, 1])).wp X.P
            (Exit.then (fun a' w' => (∃ i : Nat, i ≤ n ∧ gt a' is = .int .i32 (i : Nat) ∧ Ag (Ch X.M0 is m) a0 a' ∧ Only (fun j => j = X.rb ∨ j = A) w0 w' ∧ Blk w' A (cap * sz) ∧ (∀ i', i ≤ i' → i' < n → Cells w' A (i' * sz) zs) ∧
              ((∃ vs bs nn, listDec (dec em.w) i bs0 = some (vs, bs) ∧ St X a' w' nn bs false ∧ Els X.D em sz A w0.heap.size w' vs) ∨ (listDec (dec em.w) n bs0 = none ∧ St X a' w' false [] true))) ∧ n - (intOf (gt a' is)).toNat < n - (intOf (Value.int .i32 (i : Nat))).toNat) (Exit.inBlock (Code.id0 (pc c0 [1])) Q)) a2 w2 := by
        intro a2 w2 hag2 honly2 hupd2 hc2
        have hsz2 : a2.tmps.size = X.N := by rw [hag2.size, g3.size, hsz]
        have gi2 : gt a2 is = .int .i32 (i : Nat) := (hag2.keep is (by unfold Ch; omega)).trans gi1
        have y0 : m + 3 < a2.tmps.size := by omega
        refine wp_reg (wpC_val (runs_move _) ?_)
        rw [evT, gi2]
        have k1 := (Ag.refl (Ch X.M0 is m) a2).put (d := m + 3) (by unfold Ch; omega) y0 (.int .i32 (i : Nat))
        have y1 : m + 4 < (a2.put (some (m + 3)) (.int .i32 (i : Nat))).tmps.size := by rw [k1.size]; omega
        refine wpC_val (runs_add (k := .i32) (p := (i : Nat)) (q := 1) (by rw [evT, gt_put y0, if_pos rfl]) rfl) ?_
        have ew : IntKind.i32.wrap ((i : Nat) + 1) = ((i + 1 : Nat) : Int) := by rw [IntWalk.i32_in _ (by omega)]; omega
        rw [ew]
        have k2 := k1.put (d := m + 4) (by unfold Ch; omega) y1 (.int .i32 ((i + 1 : Nat) : Int))
        have y2 : is < ((a2.put (some (m + 3)) (.int .i32 (i : Nat))).put (some (m + 4)) (.int .i32 ((i + 1 : Nat) : Int))).tmps.size := by rw [k2.size]; omega
        have e2 : ((a2.put (some (m + 3)) (.int .i32 (i : Nat))).put (some (m + 4)) (.int .i32 ((i + 1 : Nat) : Int))).eval (.tmp (m + 4)) = .int .i32 ((i + 1 : Nat) : Int) := by rw [evT, gt_put y1, if_pos rfl]
        refine wpC_val (runs_assign _) (wpC_nil ?_)
        rw [e2]
        have k3 := k2.put (d := is) (by unfold Ch; omega) y2 (.int .i32 ((i + 1 : Nat) : Int))
        have e3 : gt (((a2.put (some (m + 3)) (.int .i32 (i : Nat))).put (some (m + 4)) (.int .i32 ((i + 1 : Nat) : Int))).put (some is) (.int .i32 ((i + 1 : Nat) : Int))) is = .int .i32 ((i + 1 : Nat) : Int) := by rw [gt_put y2, if_pos rfl]
        generalize ((a2.put (some (m + 3)) (.int .i32 (i : Nat))).put (some (m + 4)) (.int .i32 ((i + 1 : Nat) : Int))).put (some is) (.int .i32 ((i + 1 : Nat) : Int)) = a3 at k3 e3
        refine ⟨⟨i + 1, hlt, e3, (hag1.trans (hag2.ch (by omega) (by omega))).trans k3, honly.trans honly2, hupd2.blk hblk, fun i' p q => ?_, ?_⟩, ?_⟩
        · refine (hzc i' (by omega) q).keep (n := sz) (by omega) fun j hj => hupd2.cell hblk (.inr ?_)
          have : (i + 1) * sz ≤ i' * sz := Nat.mul_le_mul_right _ p
          rw [Nat.add_mul, Nat.one_mul] at this
          omega
        · rcases hc2 with ⟨vs, bs, nn, q1, q2, q3⟩ | ⟨q1, q2⟩
          · exact .inl ⟨vs, bs, nn, q1, q2.act k3 h9 (by omega) (by omega), q3⟩
          · exact .inr ⟨q1, q2.act k3 h9 (by omega) (by omega)⟩
        · rw [e3]; simp [intOf]; omega
      rcases hcase with ⟨vs, bs, nn, hd, hst, hels⟩ | ⟨hd, hst⟩
      · refine hbody _ a1 w nn bs false i hlt (st1 hst) ga1 gi1 hblk (hzc i (Nat.le_refl _) hlt) _ ⟨?_, ?_, ?_⟩
        · intro a2 w2 x bs2 nn2 _ hx hag2 honly2 hupd2 hst2 hH
          refine post a2 w2 hag2 honly2 hupd2 (.inl ⟨vs ++ [x], bs2, nn2, ?_, hst2, ?_⟩)
          · rw [listDec_snoc, hd]; simp only; rw [hx]
          · obtain ⟨f, hf⟩ := hels
            have hvl : vs.length = i := listDec_length _ _ _ _ _ hd
            refine ⟨fun j => if j = i then (w.heap.size, w2.heap.size) else f j, fun j v hv => ?_⟩
            by_cases hj : j = i
            · subst hj
              dsimp only
              rw [if_pos rfl]
              rw [List.getElem?_append_right (by omega), hvl, Nat.sub_self] at hv
              simp at hv
              subst hv
              exact ⟨honly.size, Nat.le_refl _, hH⟩
            · dsimp only
              rw [if_neg hj]
              have hjl : j < vs.length := by
                have := (List.getElem?_eq_some_iff.1 hv).1
                simp at this; omega
              rw [List.getElem?_append_left hjl] at hv
              obtain ⟨b1, b2, b3⟩ := hf j v hv
              have hrl : X.rb < w0.heap.size := hst0.st.lt
              refine ⟨b1, Nat.le_trans b2 honly2.size, b3.keep (honly2.block X.D (by have := honly.size; omega) (by omega)) (fun q q1 q2 => honly2.block q (by omega) (by omega)) fun c hc => hupd2.cell hblk (.inl ?_)⟩
              have : (j + 1) * sz ≤ i * sz := Nat.mul_le_mul_right _ (by omega)
              rw [Nat.add_mul, Nat.one_mul] at this
              omega
        · intro a2 w2 hx hag2 honly2 hupd2 hst2
          refine post a2 w2 hag2 honly2 hupd2 (.inr ⟨listDec_none _ (i := i + 1) ?_ hlt, hst2⟩)
          rw [listDec_snoc, hd]
          rcases hx with hx | hx
          · cases hx
          · simp only; rw [hx]
        · intro a2 w2 hx hdf he honly2 hupd2
          refine ret a2 w2 (listDec_none _ (i := i + 1) ?_ hlt) hdf he (honly.trans honly2)
          rw [listDec_snoc, hd]
          rcases hx with hx | hx
          · cases hx
          · simp only; rw [hx]
      · refine hbody _ a1 w false [] true i hlt (st1 hst) ga1 gi1 hblk (hzc i (Nat.le_refl _) hlt) _ ⟨?_, ?_, ?_⟩
        · intro a2 w2 x bs2 nn2 hb; cases hb
        · intro a2 w2 hx hag2 honly2 hupd2 hst2
          exact post a2 w2 hag2 honly2 hupd2 (.inr ⟨hd, hst2⟩)
        · intro a2 w2 hx hdf he honly2 hupd2
          exact ret a2 w2 hd hdf he (honly.trans honly2)
    · obtain rfl : i = n := by omega
      rw [if_neg (by simp)]
      refine wp_exit ?_
      show (if Code.id0 (pc c0 [1]) = Code.id0 (pc c0 [1]) then Q .normal a1 w else Q (.exit _) a1 w)
      rw [if_pos rfl]
      rcases hcase with ⟨vs, bs, nn, hd, hst, hels⟩ | ⟨hd, hst⟩
      · exact good a1 w vs bs nn hd hag1 honly (st1 hst) hels
      · exact fail a1 w hd hag1 honly (st1 hst)
end
end Go.Proofs.YtpefipjgcpchaaaGreatDoorR.Kf

namespace Go.Proofs.YtpefipjgcpchaaaGreatDoorR.Kf
set_option linter.unusedVariables false
set_option linter.unusedSimpArgs false
open Go Go.RowKit

/-! ### operations with guards -/
section
variable {P : Program} {Q : Exit → Act → World → Prop} {a : Act} {w w' : World} {full cs : List Core}

def wpG (P : Program) (full : List Core) (Q : Exit → Act → World → Prop) (cs : List Core) (a : Act) (w : World) : Prop :=
  ∀ (all : Array Oper) (os : List Oper), (∀ j : Nat, (all[j]?).bind Oper.dst = (full[j]?).bind Core.dst) → wpList P all Q (mkOps cs os) a w

theorem mkOps_dst : ∀ (cs : List Core) (os : List Oper) (j : Nat), ((mkOps cs os)[j]?).bind Oper.dst = (cs[j]?).bind Core.dst := by
  intro cs
  induction cs with
  | nil => intro os j; simp [mkOps]
  | cons c cs ih =>
    intro os j
    obtain ⟨o, os', e⟩ := mkOps_cons c cs os
    rw [e]
    cases j with
    | zero => rfl
    | succ j => simpa using ih os' j

theorem wp_regG {c0 : Code} (h : wpG P cs Q cs a w) : (reg cs c0).wp P Q a w :=
  wp_region_list (by
    have := h (mkOps cs (Code.ops0 c0)).toArray (Code.ops0 c0) (fun j => by simpa using mkOps_dst cs (Code.ops0 c0) j)
    simpa using this)

theorem wpG_nil (h : Q .normal a w) : wpG P full Q [] a w := fun _ _ _ => wpList_nil h

theorem wpG_val {dst : Option Tmp} {op : Op} {v : Value} (hr : Runs P a w op v w') (h : wpG P full Q cs (a.put dst v) w') : wpG P full Q (⟨dst, op, none⟩ :: cs) a w := by
  intro all os hall
  obtain ⟨o, os', e⟩ := mkOps_cons ⟨dst, op, none⟩ cs os
  rw [e]
  refine wpList_plain rfl fun K hK => ?_
  show Oper.upon P _ a K Q _
  rw [hr (mkOp ⟨dst, op, none⟩ o) rfl]
  exact hK _ _ (h all os' hall)

theorem yielded_of {all : Array Oper} {j d : Nat} {b : Bool} (hall : ∀ j : Nat, (all[j]?).bind Oper.dst = (full[j]?).bind Core.dst) (hj : (full[j]?).bind Core.dst = some d) (hd : d < a.tmps.size) (hv : gt a d = .bool b) : yielded all a.tmps j = some b := by
  have : a.tmps[d]? = some (.bool b) := by
    simp only [gt, Array.getD_eq_getD_getElem?] at hv
    rw [Array.getElem?_eq_getElem hd] at hv ⊢
    simpa using hv
  simp [yielded, hall j, hj, this]

/-- An operation whose guard says yes. -/
theorem wpG_yes {dst : Option Tmp} {op : Op} {v : Value} {j d : Nat} {b : Bool} (hj : (full[j]?).bind Core.dst = some d) (hd : d < a.tmps.size) (hv : gt a d = .bool b) (hr : Runs P a w op v w') (h : wpG P full Q cs (a.put dst v) w') :
    wpG P full Q (⟨dst, op, some (j, b)⟩ :: cs) a w := by
  intro all os hall
  obtain ⟨o, os', e⟩ := mkOps_cons ⟨dst, op, some (j, b)⟩ cs os
  rw [e]
  refine wpList_step fun K hK => ?_
  have hw : Region.wanted (mkOp ⟨dst, op, some (j, b)⟩ o) (yielded all a.tmps) = true := by
    simp only [Region.wanted, mkOp]
    rw [yielded_of hall hj hd hv]
    simp
  rw [if_pos hw]
  show Oper.upon P _ a K Q _
  rw [hr (mkOp ⟨dst, op, some (j, b)⟩ o) rfl]
  exact hK _ _ (h all os' hall)

/-- An operation whose guard says no. -/
theorem wpG_no {dst : Option Tmp} {op : Op} {j d : Nat} {b c : Bool} (hj : (full[j]?).bind Core.dst = some d) (hd : d < a.tmps.size) (hv : gt a d = .bool c) (hne : c ≠ b) (h : wpG P full Q cs (a.put dst undef) w) :
    wpG P full Q (⟨dst, op, some (j, b)⟩ :: cs) a w := by
  intro all os hall
  obtain ⟨o, os', e⟩ := mkOps_cons ⟨dst, op, some (j, b)⟩ cs os
  rw [e]
  refine wpList_skip ?_ (h all os' hall)
  simp only [Region.wanted, mkOp]
  rw [yielded_of hall hj hd hv]
  simp [hne]

theorem runs_pick {c x y : Operand} {b : Bool} (hc : a.eval c = .bool b) : Runs P a w (.pick c x y) (if b then a.eval x else a.eval y) w := by
  intro o h
  cases b <;> simp [execOp, h, hc, asBool]
end

inductive Cond
  | all
  | ge (n : Int)
  | rng (lo hi : Int)
  deriving DecidableEq

def Cond.t : Cond → Nat
  | .all => 0
  | .ge _ => 2
  | .rng _ _ => 6

def Cond.holds (ver : Int) : Cond → Bool
  | .all => true
  | .ge n => decide (ver ≥ n)
  | .rng lo hi => decide (ver ≥ lo) && decide (ver ≤ hi)

/-- A test of the version in the slot vs. -/
def gCond (i16 vs : Nat) (m : Nat) (body : Code → Code) : Cond → Code → Code
  | .all, c => body c
  | .ge n, c => .seq (reg [⟨some m, .move (.tmp vs), none⟩, ⟨some (m + 1), .binOp .geq i16 (.tmp m) (.const (.int .i16 n)) i16, none⟩] (pc c [0])) (.cond (.tmp (m + 1)) (body (pc c [1, 0])) .skip)
  | .rng lo hi, c => .seq (reg [⟨some m, .move (.tmp vs), none⟩, ⟨some (m + 1), .binOp .geq i16 (.tmp m) (.const (.int .i16 lo)) i16, none⟩, ⟨some (m + 2), .move (.tmp (m + 1)), none⟩, ⟨some (m + 3), .move (.tmp vs), some (2, true)⟩,
      ⟨some (m + 4), .binOp .leq i16 (.tmp (m + 3)) (.const (.int .i16 hi)) i16, some (2, true)⟩, ⟨some (m + 5), .pick (.tmp (m + 2)) (.tmp (m + 4)) (.const (.bool false)), none⟩] (pc c [0])) (.cond (.tmp (m + 5)) (body (pc c [1, 0])) .skip)

section
variable {P : Program} {Q : Exit → Act → World → Prop} {a : Act} {w : World}

theorem gCond_wp {i16 vs m : Nat} {body : Code → Code} {cd : Cond} {c0 : Code} {ver : Int} (hver : gt a vs = .int .i16 ver) (hvs : vs < m) (hN : m + cd.t ≤ a.tmps.size)
    (yes : cd.holds ver = true → ∀ c a', Ag (fun j => m ≤ j ∧ j < m + cd.t) a a' → (body c).wp P Q a' w)
    (no : cd.holds ver = false → ∀ a', Ag (fun j => m ≤ j ∧ j < m + cd.t) a a' → Q .normal a' w) : (gCond i16 vs m body cd c0).wp P Q a w := by
  cases cd with
  | all => exact yes rfl c0 a (Ag.refl _ _)
  | ge n =>
    simp only [Cond.t] at hN yes no
    refine wp_seq (wp_reg (wpC_val (runs_move _) ?_))
    have z0 : m < a.tmps.size := by omega
    rw [evT, hver]
    have g1 := (Ag.refl (fun j => m ≤ j ∧ j < m + 2) a).put (d := m) (by omega) z0 (.int .i16 ver)
    have z1 : m + 1 < (a.put (some m) (.int .i16 ver)).tmps.size := by rw [g1.size]; omega
    refine wpC_val (runs_cmp .geq _ (.inr (.inl ⟨rfl, rfl⟩)) (k := .i16) (p := ver) (q := n) (by rw [evT, gt_put z0, if_pos rfl]) rfl) (wpC_nil ?_)
    have g2 := g1.put (d := m + 1) (by omega) z1 (.bool (decide (ver ≥ n)))
    have e2 : gt ((a.put (some m) (.int .i16 ver)).put (some (m + 1)) (.bool (decide (ver ≥ n)))) (m + 1) = .bool (decide (ver ≥ n)) := by rw [gt_put z1, if_pos rfl]
    generalize (a.put (some m) (.int .i16 ver)).put (some (m + 1)) (.bool (decide (ver ≥ n))) = a2 at g2 e2
    refine wp_cond (t := decide (ver ≥ n)) e2 ?_
    cases hh : decide (ver ≥ n) with
    | true => rw [if_pos rfl]; exact yes hh _ a2 g2
    | false => rw [if_neg (by decide)]; exact wp_skip (no hh a2 g2)
  | rng lo hi =>
    simp only [Cond.t] at hN yes no
    refine wp_seq (wp_regG (wpG_val (runs_move _) ?_))
    have z0 : m < a.tmps.size := by omega
    rw [evT, hver]
    have g1 := (Ag.refl (fun j => m ≤ j ∧ j < m + 6) a).put (d := m) (by omega) z0 (.int .i16 ver)
    have z1 : m + 1 < (a.put (some m) (.int .i16 ver)).tmps.size := by rw [g1.size]; omega
    refine wpG_val (runs_cmp .geq _ (.inr (.inl ⟨rfl, rfl⟩)) (k := .i16) (p := ver) (q := lo) (by rw [evT, gt_put z0, if_pos rfl]) rfl) ?_
    have g2 := g1.put (d := m + 1) (by omega) z1 (.bool (decide (ver ≥ lo)))
    have e2 : gt ((a.put (some m) (.int .i16 ver)).put (some (m + 1)) (.bool (decide (ver ≥ lo)))) (m + 1) = .bool (decide (ver ≥ lo)) := by rw [gt_put z1, if_pos rfl]
    generalize (a.put (some m) (.int .i16 ver)).put (some (m + 1)) (.bool (decide (ver ≥ lo))) = a2 at g2 e2
    have z2 : m + 2 < a2.tmps.size := by rw [g2.size]; omega
    refine wpG_val (runs_move _) ?_
    rw [evT, e2]
    have g3 := g2.put (d := m + 2) (by omega) z2 (.bool (decide (ver ≥ lo)))
    have e3 : gt (a2.put (some (m + 2)) (.bool (decide (ver ≥ lo)))) (m + 2) = .bool (decide (ver ≥ lo)) := by rw [gt_put z2, if_pos rfl]
    generalize a2.put (some (m + 2)) (.bool (decide (ver ≥ lo))) = a3 at g3 e3
    have v3 : gt a3 vs = .int .i16 ver := (g3.keep vs (by omega)).trans hver
    have z2' : m + 2 < a3.tmps.size := by rw [g3.size]; omega
    have z3 : m + 3 < a3.tmps.size := by rw [g3.size]; omega
    cases hlo : decide (ver ≥ lo) with
    | true =>
      rw [hlo] at e3
      refine wpG_yes (d := m + 2) rfl z2' e3 (runs_move _) ?_
      rw [evT, v3]
      have g4 := g3.put (d := m + 3) (by omega) z3 (.int .i16 ver)
      have z4 : m + 4 < (a3.put (some (m + 3)) (.int .i16 ver)).tmps.size := by rw [g4.size]; omega
      refine wpG_yes (d := m + 2) rfl (by rw [g4.size]; omega) (by rw [gt_put z3, if_neg (by omega)]; exact e3) (runs_cmp .leq _ (.inr (.inr (.inr (.inl ⟨rfl, rfl⟩)))) (k := .i16) (p := ver) (q := hi) (by rw [evT, gt_put z3, if_pos rfl]) rfl) ?_
      have g5 := g4.put (d := m + 4) (by omega) z4 (.bool (decide (ver ≤ hi)))
      have e5 : gt ((a3.put (some (m + 3)) (.int .i16 ver)).put (some (m + 4)) (.bool (decide (ver ≤ hi)))) (m + 4) = .bool (decide (ver ≤ hi)) := by rw [gt_put z4, if_pos rfl]
      have e5b : gt ((a3.put (some (m + 3)) (.int .i16 ver)).put (some (m + 4)) (.bool (decide (ver ≤ hi)))) (m + 2) = .bool true := by rw [gt_put z4, if_neg (by omega), gt_put z3, if_neg (by omega)]; exact e3
      generalize (a3.put (some (m + 3)) (.int .i16 ver)).put (some (m + 4)) (.bool (decide (ver ≤ hi))) = a5 at g5 e5 e5b
      have z5 : m + 5 < a5.tmps.size := by rw [g5.size]; omega
      refine wpG_val (runs_pick (b := true) e5b) (wpG_nil ?_)
      rw [if_pos rfl, evT, e5]
      have g6 := g5.put (d := m + 5) (by omega) z5 (.bool (decide (ver ≤ hi)))
      have e6 : gt (a5.put (some (m + 5)) (.bool (decide (ver ≤ hi)))) (m + 5) = .bool (decide (ver ≤ hi)) := by rw [gt_put z5, if_pos rfl]
      refine wp_cond (t := decide (ver ≤ hi)) e6 ?_
      cases hh : decide (ver ≤ hi) with
      | true => rw [if_pos rfl, ← hh]; exact yes (by simp only [Cond.holds, hlo, hh]; rfl) _ _ g6
      | false => rw [if_neg (by decide), ← hh]; exact wp_skip (no (by simp only [Cond.holds, hlo, hh]; rfl) _ g6)
    | false =>
      rw [hlo] at e3
      refine wpG_no (d := m + 2) rfl z2' e3 (by decide) ?_
      have g4 := g3.put (d := m + 3) (by omega) z3 undef
      have z4 : m + 4 < (a3.put (some (m + 3)) undef).tmps.size := by rw [g4.size]; omega
      refine wpG_no (d := m + 2) rfl (by rw [g4.size]; omega) (by rw [gt_put z3, if_neg (by omega)]; exact e3) (by decide) ?_
      have g5 := g4.put (d := m + 4) (by omega) z4 undef
      have e5b : gt ((a3.put (some (m + 3)) undef).put (some (m + 4)) undef) (m + 2) = .bool false := by rw [gt_put z4, if_neg (by omega), gt_put z3, if_neg (by omega)]; exact e3
      generalize (a3.put (some (m + 3)) undef).put (some (m + 4)) undef = a5 at g5 e5b
      have z5 : m + 5 < a5.tmps.size := by rw [g5.size]; omega
      refine wpG_val (runs_pick (b := false) e5b) (wpG_nil ?_)
      rw [if_neg (by decide)]
      have g6 := g5.put (d := m + 5) (by omega) z5 (.bool false)
      have e6 : gt (a5.put (some (m + 5)) (.bool false)) (m + 5) = .bool false := by rw [gt_put z5, if_pos rfl]
      exact wp_cond (t := false) e6 (by rw [if_neg (by decide)]; exact wp_skip (no (by simp only [Cond.holds, hlo]; rfl) _ g6))
end
end Go.Proofs.YtpefipjgcpchaaaGreatDoorR.Kf

namespace Go.Proofs.YtpefipjgcpchaaaGreatDoorR.Kf
set_option linter.unusedVariables false
set_option linter.unusedSimpArgs false
open Go Go.RowKit

/-! ### small pieces -/

def gLoad (T i u s k m : Nat) (c0 : Code) : Code :=
  reg [⟨some m, .move (.tmp s), none⟩, ⟨some (m + 1), .nilCheck (.tmp m), none⟩, ⟨some (m + 2), .fieldAddr T (.tmp (m + 1)) i, none⟩, ⟨some (m + 3), .load u (.tmp (m + 2)), none⟩, ⟨some k, .assign (.tmp (m + 3)), none⟩] c0
def gConst (d : Nat) (v : Value) (c0 : Code) : Code := reg [⟨some d, .assign (.const v), none⟩] c0

section
variable {P : Program} {Q : Exit → Act → World → Prop} {a : Act} {w : World}

theorem gLoad_wp {T i o n u s k m b off : Nat} {c0 : Code} {v : Value} (hs : gt a s = .pointer (some ⟨b, off, none⟩)) (hf : FieldAt P T i o u n) (h1 : One P u) (hv : w.cell? ⟨b, off + o, none⟩ = some v) (hk : k < m) (hN : m + 4 ≤ a.tmps.size)
    (h : ∀ a', Ag (fun j => j = k ∨ (m ≤ j ∧ j < m + 4)) a a' → gt a' k = v → Q .normal a' w) : (gLoad T i u s k m c0).wp P Q a w := by
  refine wp_reg (wpC_val (runs_move _) ?_)
  have z0 : m < a.tmps.size := by omega
  rw [evT, hs]
  have g1 := (Ag.refl (fun j => j = k ∨ (m ≤ j ∧ j < m + 4)) a).put (d := m) (by omega) z0 (.pointer (some ⟨b, off, none⟩))
  have e1 : gt (a.put (some m) (.pointer (some ⟨b, off, none⟩))) m = .pointer (some ⟨b, off, none⟩) := by rw [gt_put z0, if_pos rfl]
  generalize a.put (some m) (.pointer (some ⟨b, off, none⟩)) = a1 at g1 e1
  refine wpC_val (runs_nilCheck (p := ⟨b, off, none⟩) e1) ?_
  have z1 : m + 1 < a1.tmps.size := by rw [g1.size]; omega
  have g2 := g1.put (d := m + 1) (by omega) z1 (.pointer (some ⟨b, off, none⟩))
  have e2 : gt (a1.put (some (m + 1)) (.pointer (some ⟨b, off, none⟩))) (m + 1) = .pointer (some ⟨b, off, none⟩) := by rw [gt_put z1, if_pos rfl]
  generalize a1.put (some (m + 1)) (.pointer (some ⟨b, off, none⟩)) = a2 at g2 e2
  refine wpC_val (runs_fieldAddr hf (p := ⟨b, off, none⟩) e2) ?_
  rw [Addr.add_lit]
  have z2 : m + 2 < a2.tmps.size := by rw [g2.size]; omega
  have g3 := g2.put (d := m + 2) (by omega) z2 (.pointer (some ⟨b, off + o, none⟩))
  have e3 : gt (a2.put (some (m + 2)) (.pointer (some ⟨b, off + o, none⟩))) (m + 2) = .pointer (some ⟨b, off + o, none⟩) := by rw [gt_put z2, if_pos rfl]
  generalize a2.put (some (m + 2)) (.pointer (some ⟨b, off + o, none⟩)) = a3 at g3 e3
  refine wpC_val (runs_load h1 (p := ⟨b, off + o, none⟩) e3 hv) ?_
  have z3 : m + 3 < a3.tmps.size := by rw [g3.size]; omega
  have g4 := g3.put (d := m + 3) (by omega) z3 v
  have e4 : gt (a3.put (some (m + 3)) v) (m + 3) = v := by rw [gt_put z3, if_pos rfl]
  generalize a3.put (some (m + 3)) v = a4 at g4 e4
  refine wpC_val (runs_assign _) (wpC_nil ?_)
  rw [evT, e4]
  have z4 : k < a4.tmps.size := by rw [g4.size]; omega
  exact h _ (g4.put (d := k) (by omega) z4 v) (by rw [gt_put z4, if_pos rfl])

theorem gConst_wp {d : Nat} {v : Value} {c0 : Code} (hd : d < a.tmps.size) (h : ∀ a', Ag (fun j => j = d) a a' → gt a' d = v → Q .normal a' w) : (gConst d v c0).wp P Q a w :=
  wp_reg (wpC_val (runs_assign _) (wpC_nil (h _ ((Ag.refl (fun j => j = d) a).put (d := d) rfl hd _) (by rw [gt_put hd, if_pos rfl]; rfl))))
end

/-! ### a list's length -/

inductive Fl
  | one (F : Nat)
  | two (Fc Fp : Nat)
  deriving DecidableEq

def Fl.t : Fl → Nat
  | .one _ => 1
  | .two _ _ => 3
def Fl.c (flex : Bool) : Fl → Bool
  | .one _ => false
  | .two _ _ => flex
def Fl.ok (P : Program) (fx : Bool) : Fl → Prop
  | .one F => LenC P F false
  | .two Fc Fp => fx = true ∧ LenC P Fc true ∧ LenC P Fp false

def gLen (G : Gn) (k m : Nat) : Fl → Code → Code
  | .one F, c => gCall G F k m c
  | .two Fc Fp, c => .seq (gMove 9 m (pc c [0])) (.cond (.tmp m) (gCall G Fc k (m + 1) (pc c [1, 0])) (gCall G Fp k (m + 2) (pc c [1, 1])))

section
variable {X : RX} {Q : Exit → Act → World → Prop}

structure LGot (X : RX) (c : Bool) (k m : Nat) (a : Act) (w : World) (bs : List UInt8) (bad : Bool) (a' : Act) (w' : World) (r : Int) : Prop where
  ag : Ag (Ch X.M0 k m) a a'
  val : gt a' k = .int .i32 r
  only : Only (· = X.rb) w w'
  comes : (bad = false ∧ ∃ bs', lenDec c bs = some (r, bs') ∧ r ≤ bs'.length ∧ bs'.length ≤ bs.length ∧ ∃ nn, Rd X.D X.rb w' nn bs' false) ∨ ((bad = true ∨ lenDec c bs = none) ∧ Rd X.D X.rb w' false [] true)

theorem gCall_len {F k m : Nat} {c0 : Code} {c : Bool} (hF : LenC X.P F c) {a a0 : Act} {w : World} {nn : Bool} {bs : List UInt8} {bad : Bool} {m0 : Nat} (hst : St X a w nn bs bad)
    (h0 : Ag (Ch X.M0 k m0) a0 a) (hk : k < X.M0) (hm : m0 ≤ m) (hM : X.M0 ≤ m) (hN : m < X.N)
    (h : ∀ a' w' r, LGot X c k m0 a0 w bs bad a' w' r → Q .normal a' w') : (gCall X.G F k m c0).wp X.P Q a w := by
  refine wp_reg (wpC_call (R := fun v w' => ∃ r : Int, v = .int .i32 r ∧ Only (· = X.rb) w w' ∧
    ((bad = false ∧ ∃ bs', lenDec c bs = some (r, bs') ∧ r ≤ bs'.length ∧ bs'.length ≤ bs.length ∧ ∃ nn, Rd X.D X.rb w' nn bs' false) ∨ ((bad = true ∨ lenDec c bs = none) ∧ Rd X.D X.rb w' false [] true))) hF.1 ?_ fun v w' hv => ?_)
  · have e : (#[Operand.tmp X.G.rs] : Array Operand).map a.eval = #[.pointer (some ⟨X.rb, 0, none⟩)] := by
      have := hst.rd
      simp only [gt] at this
      simp [Act.eval, this]
    rw [e]
    exact hF.2 X.D X.rb w nn bs bad hst.st hst.lim
  · obtain ⟨r, rfl, ho, hc⟩ := hv
    have hs : m < a.tmps.size := by rw [hst.size]; exact hN
    have hk2 : k < (a.put (some m) (.int .i32 r)).tmps.size := by rw [size_put, hst.size]; omega
    have ha1 : Ag (Ch X.M0 k m0) a0 (a.put (some m) (.int .i32 r)) := h0.put (by unfold Ch; omega) hs _
    have hev : (a.put (some m) (.int .i32 r)).eval (.tmp m) = .int .i32 r := by
      show gt (a.put (some m) (.int .i32 r)) m = _
      rw [gt_put hs, if_pos rfl]
    refine wpC_val (runs_assign _) (wpC_nil ?_)
    rw [hev]
    refine h _ w' r ⟨ha1.put (by unfold Ch; omega) hk2 _, ?_, ho, hc⟩
    rw [gt_put hk2, if_pos rfl]

theorem gLen_wp (l : Fl) {k m : Nat} {c0 : Code} (hl : l.ok X.P X.fx) {a : Act} {w : World} {nn : Bool} {bs : List UInt8} {bad : Bool} (hst : St X a w nn bs bad) (h9 : 9 ≤ X.b9 ∧ X.b9 < k) (hk : k < X.M0) (hm : X.M0 ≤ m) (hN : m + l.t ≤ X.N)
    (h : ∀ a' w' r, LGot X (l.c X.flex) k m a w bs bad a' w' r → Q .normal a' w') : (gLen X.G k m l c0).wp X.P Q a w := by
  cases l with
  | one F => simp only [Fl.t] at hN; exact gCall_len hl hst (Ag.refl _ _) hk (Nat.le_refl _) hm (by omega) h
  | two Fc Fp =>
    simp only [Fl.t] at hN
    obtain ⟨hfx, hc, hp⟩ := hl
    have z0 : m < a.tmps.size := by rw [hst.size]; omega
    refine wp_seq (gMove_wp (X := X) z0 ?_)
    have g2 := (Ag.refl (Ch X.M0 k m) a).put (d := m) (by unfold Ch; omega) z0 (gt a 9)
    have st2 := hst.act g2 h9 (by omega) (by omega)
    refine wp_cond (t := X.flex) (show gt _ m = _ by rw [gt_put z0, if_pos rfl, hst.fl hfx]) ?_
    cases hf : X.flex with
    | true =>
      rw [if_pos rfl]
      exact gCall_len hc st2 g2 hk (by omega) (by omega) (by omega) fun a' w' r hr => h a' w' r (by simpa [Fl.c, hf] using hr)
    | false =>
      rw [if_neg (by decide)]
      exact gCall_len hp st2 g2 hk (by omega) (by omega) (by omega) fun a' w' r hr => h a' w' r (by simpa [Fl.c, hf] using hr)
end

/-! ### null or of no things; has the reader failed -/

def gNull (G : Gn) (TS ls as m : Nat) : Option Int → (Code → Code) → Code → Code
  | none, next, c => next c
  | some n, next, c => .seq (.seq (reg [⟨some m, .move (.tmp 8), none⟩, ⟨some (m + 1), .binOp .lss G.i16 (.tmp m) (.const (.int .i16 n)) G.i16, none⟩, ⟨some (m + 2), .move (.tmp (m + 1)), none⟩, ⟨some (m + 3), .move (.tmp ls), some (2, false)⟩,
      ⟨some (m + 4), .binOp .eql G.i32 (.tmp (m + 3)) (.const (.int .i32 0)) G.i32, some (2, false)⟩, ⟨some (m + 5), .pick (.tmp (m + 2)) (.const (.bool true)) (.tmp (m + 4)), none⟩] (pc c [0, 0]))
      (.cond (.tmp (m + 5)) (reg [⟨some (m + 6), .buildSlice TS 0 #[], none⟩, ⟨some as, .assign (.tmp (m + 6)), none⟩] (pc c [0, 1, 0])) .skip)) (next (pc c [1]))

def nullT : Option Int → Nat
  | none => 0
  | some _ => 7

/-- Whether the list is made to be one of no things. -/
def nullB (ver : Int) (r : Int) : Option Int → Bool
  | none => false
  | some n => decide (ver < n) || (r == 0)

section
variable {X : RX} {Q : Exit → Act → World → Prop}

theorem gNull_wp {TS sz eb : Nat} {zs : List Value} (hS : Sl X.P TS sz eb zs) {ls as m : Nat} {nl : Option Int} {next : Code → Code} {c0 : Code} {a : Act} {w : World} {ver r : Int} (hver : gt a 8 = .int .i16 ver) (hl : gt a ls = .int .i32 r) (h8 : 8 < m) (hlm : ls < m) (ham : as < m) (hN : m + nullT nl ≤ a.tmps.size)
    (yes : nullB ver r nl = true → ∀ c a' e, Ag (fun j => j = as ∨ (m ≤ j ∧ j < m + 7)) a a' → gt a' as = .slice (some ⟨w.heap.size, 0, none⟩) 0 0 → (next c).wp X.P Q a' (w.alloc (.cells #[] e)))
    (no : nullB ver r nl = false → ∀ c a', Ag (fun j => m ≤ j ∧ j < m + 7) a a' → (next c).wp X.P Q a' w) : (gNull X.G TS ls as m nl next c0).wp X.P Q a w := by
  cases nl with
  | none => exact no rfl c0 a (Ag.refl _ _)
  | some n =>
    simp only [nullT] at hN
    refine wp_seq (wp_seq (wp_regG (wpG_val (runs_move _) ?_)))
    have z0 : m < a.tmps.size := by omega
    rw [evT, hver]
    have g1 := (Ag.refl (fun j => m ≤ j ∧ j < m + 7) a).put (d := m) (by omega) z0 (.int .i16 ver)
    have z1 : m + 1 < (a.put (some m) (.int .i16 ver)).tmps.size := by rw [g1.size]; omega
    refine wpG_val (runs_cmp .lss _ (.inl ⟨rfl, rfl⟩) (k := .i16) (p := ver) (q := n) (by rw [evT, gt_put z0, if_pos rfl]) rfl) ?_
    have g2 := g1.put (d := m + 1) (by omega) z1 (.bool (decide (ver < n)))
    have e2 : gt ((a.put (some m) (.int .i16 ver)).put (some (m + 1)) (.bool (decide (ver < n)))) (m + 1) = .bool (decide (ver < n)) := by rw [gt_put z1, if_pos rfl]
    generalize (a.put (some m) (.int .i16 ver)).put (some (m + 1)) (.bool (decide (ver < n))) = a2 at g2 e2
    have z2 : m + 2 < a2.tmps.size := by rw [g2.size]; omega
    refine wpG_val (runs_move _) ?_
    rw [evT, e2]
    have g3 := g2.put (d := m + 2) (by omega) z2 (.bool (decide (ver < n)))
    have e3 : gt (a2.put (some (m + 2)) (.bool (decide (ver < n)))) (m + 2) = .bool (decide (ver < n)) := by rw [gt_put z2, if_pos rfl]
    generalize a2.put (some (m + 2)) (.bool (decide (ver < n))) = a3 at g3 e3
    have v3 : gt a3 ls = .int .i32 r := (g3.keep ls (by omega)).trans hl
    have z2' : m + 2 < a3.tmps.size := by rw [g3.size]; omega
    have z3 : m + 3 < a3.tmps.size := by rw [g3.size]; omega
    -- behind the test
    have behind : ∀ a5 : Act, Ag (fun j => m ≤ j ∧ j < m + 7) a a5 → (∀ b, gt a5 (m + 2) = .bool b → b = decide (ver < n)) → ∀ t : Bool, (nullB ver r (some n) = t) → gt a5 (m + 5) = .bool t →
        (Code.cond (.tmp (m + 5)) (reg [⟨some (m + 6), .buildSlice TS 0 #[], none⟩, ⟨some as, .assign (.tmp (m + 6)), none⟩] (pc c0 [0, 1, 0])) .skip).wp X.P (Exit.then ((next (pc c0 [1])).wp X.P Q) Q) a5 w := by
      intro a5 g5 _ t ht he
      refine wp_cond (t := t) he ?_
      cases t with
      | true =>
        rw [if_pos rfl]
        obtain ⟨e, hr⟩ := runs_empty (a := a5) (w := w) hS
        have y1 : m + 6 < a5.tmps.size := by rw [g5.size]; omega
        refine wp_reg (wpC_val hr ?_)
        have k1 := (g5.mono (S' := fun j => j = as ∨ (m ≤ j ∧ j < m + 7)) (fun j hj => .inr hj)).put (d := m + 6) (by omega) y1 (.slice (some ⟨w.heap.size, 0, none⟩) 0 0)
        have q1 : gt (a5.put (some (m + 6)) (.slice (some ⟨w.heap.size, 0, none⟩) 0 0)) (m + 6) = .slice (some ⟨w.heap.size, 0, none⟩) 0 0 := by rw [gt_put y1, if_pos rfl]
        generalize a5.put (some (m + 6)) (.slice (some ⟨w.heap.size, 0, none⟩) 0 0) = a6 at k1 q1
        refine wpC_val (runs_assign _) (wpC_nil ?_)
        rw [evT, q1]
        have y2 : as < a6.tmps.size := by rw [k1.size]; omega
        exact yes ht _ _ e (k1.put (d := as) (by omega) y2 _) (by rw [gt_put y2, if_pos rfl])
      | false =>
        rw [if_neg (by decide)]
        exact wp_skip (no ht _ a5 g5)
    cases hlo : decide (ver < n) with
    | false =>
      rw [hlo] at e3
      refine wpG_yes (d := m + 2) rfl z2' e3 (runs_move _) ?_
      rw [evT, v3]
      have g4 := g3.put (d := m + 3) (by omega) z3 (.int .i32 r)
      have z4 : m + 4 < (a3.put (some (m + 3)) (.int .i32 r)).tmps.size := by rw [g4.size]; omega
      refine wpG_yes (d := m + 2) rfl (by rw [g4.size]; omega) (by rw [gt_put z3, if_neg (by omega)]; exact e3) (runs_cmp .eql _ (.inr (.inr (.inr (.inr ⟨rfl, rfl⟩)))) (k := .i32) (p := r) (q := 0) (by rw [evT, gt_put z3, if_pos rfl]) rfl) ?_
      have g5 := g4.put (d := m + 4) (by omega) z4 (.bool (r == 0))
      have e5 : gt ((a3.put (some (m + 3)) (.int .i32 r)).put (some (m + 4)) (.bool (r == 0))) (m + 4) = .bool (r == 0) := by rw [gt_put z4, if_pos rfl]
      have e5b : gt ((a3.put (some (m + 3)) (.int .i32 r)).put (some (m + 4)) (.bool (r == 0))) (m + 2) = .bool false := by rw [gt_put z4, if_neg (by omega), gt_put z3, if_neg (by omega)]; exact e3
      generalize (a3.put (some (m + 3)) (.int .i32 r)).put (some (m + 4)) (.bool (r == 0)) = a5 at g5 e5 e5b
      have z5 : m + 5 < a5.tmps.size := by rw [g5.size]; omega
      refine wpG_val (runs_pick (b := false) e5b) (wpG_nil ?_)
      rw [if_neg (by decide), evT, e5]
      have g6 := g5.put (d := m + 5) (by omega) z5 (.bool (r == 0))
      have e6 : gt (a5.put (some (m + 5)) (.bool (r == 0))) (m + 5) = .bool (r == 0) := by rw [gt_put z5, if_pos rfl]
      have e7 : gt (a5.put (some (m + 5)) (.bool (r == 0))) (m + 2) = .bool false := by rw [gt_put z5, if_neg (by omega)]; exact e5b
      refine behind _ g6 (fun b hb => ?_) (r == 0) ?_ e6
      · rw [e7] at hb; injection hb with hb; rw [← hb, hlo]
      · simp only [nullB, hlo, Bool.false_or]
    | true =>
      rw [hlo] at e3
      refine wpG_no (d := m + 2) rfl z2' e3 (by decide) ?_
      have g4 := g3.put (d := m + 3) (by omega) z3 undef
      have z4 : m + 4 < (a3.put (some (m + 3)) undef).tmps.size := by rw [g4.size]; omega
      refine wpG_no (d := m + 2) rfl (by rw [g4.size]; omega) (by rw [gt_put z3, if_neg (by omega)]; exact e3) (by decide) ?_
      have g5 := g4.put (d := m + 4) (by omega) z4 undef
      have e5b : gt ((a3.put (some (m + 3)) undef).put (some (m + 4)) undef) (m + 2) = .bool true := by rw [gt_put z4, if_neg (by omega), gt_put z3, if_neg (by omega)]; exact e3
      generalize (a3.put (some (m + 3)) undef).put (some (m + 4)) undef = a5 at g5 e5b
      have z5 : m + 5 < a5.tmps.size := by rw [g5.size]; omega
      refine wpG_val (runs_pick (b := true) e5b) (wpG_nil ?_)
      rw [if_pos rfl]
      have g6 := g5.put (d := m + 5) (by omega) z5 (a5.eval (.const (.bool true)))
      have e6 : gt (a5.put (some (m + 5)) (a5.eval (.const (.bool true)))) (m + 5) = .bool true := by rw [gt_put z5, if_pos rfl]; rfl
      have e7 : gt (a5.put (some (m + 5)) (a5.eval (.const (.bool true)))) (m + 2) = .bool true := by rw [gt_put z5, if_neg (by omega)]; exact e5b
      refine behind _ g6 (fun b hb => ?_) true ?_ e6
      · rw [e7] at hb; injection hb with hb; rw [← hb, hlo]
      · simp only [nullB, hlo, Bool.true_or]

def gOk (G : Gn) (m : Nat) (c0 : Code) : Code :=
  .seq (reg [⟨some m, .call ⟨.value (.func G.ok), #[.tmp G.rs], #[G.rt]⟩, none⟩, ⟨some (m + 1), .unOp .not G.bool (.tmp m), none⟩] (pc c0 [0]))
    (.cond (.tmp (m + 1)) (.seq (reg [⟨some (m + 2), .call ⟨.value (.func G.co), #[.tmp G.rs], #[G.rt]⟩, none⟩, ⟨some 6, .assign (.tmp (m + 2)), none⟩] (pc c0 [1, 0, 0])) .ret) .skip)

/-- The reader's own functions do what they must. -/
structure XOk (X : RX) : Prop where
  ok : OkC X.P X.G.ok
  co : CompC X.P X.G.co X.I
  i32 : X.P.underlying X.G.i32 = some (.int .i32)
  N0 : 9 ≤ X.b9 ∧ X.b9 < X.M0

theorem Only.none {w w' : World} (h : Only (fun _ => False) w w') (S : Nat → Prop) : Only S w w' := h.mono fun _ _ x => x.elim

theorem St.none {a : Act} {w w' : World} {nn : Bool} {bs : List UInt8} {bad : Bool} (hst : St X a w nn bs bad) (h : Only (fun _ => False) w w') : St X a w' nn bs bad := by
  have hr := hst.rb_gt
  have hl := hst.st.lt
  exact hst.world (hst.st.keep (h.block _ (by omega) id) (h.block _ hl id)) (Nat.le_refl _) (h.none _)

theorem argRd {a : Act} {w : World} {nn : Bool} {bs : List UInt8} {bad : Bool} (hst : St X a w nn bs bad) : (#[Operand.tmp X.G.rs] : Array Operand).map a.eval = #[.pointer (some ⟨X.rb, 0, none⟩)] := by
  have := hst.rd
  simp only [gt] at this
  simp [Act.eval, this]

theorem gOk_wp (hX : XOk X) {m : Nat} {c0 : Code} {a : Act} {w : World} {nn : Bool} {bs : List UInt8} {bad : Bool} (hst : St X a w nn bs bad) (hm : X.M0 ≤ m) (hN : m + 3 ≤ X.N)
    (good : bad = false → ∀ a' w', Ag (fun j => m ≤ j ∧ j < m + 3) a a' → Only (fun _ => False) w w' → Q .normal a' w')
    (ret : bad = true → ∀ a' w', a'.defers = [] → IsErr true (gt a' 6) → Only (fun _ => False) w w' → Q .ret a' w') : (gOk X.G m c0).wp X.P Q a w := by
  have hM := hX.N0
  refine wp_seq (wp_reg (wpC_call (R := fun v w' => v = .bool (!bad) ∧ Only (fun _ => False) w w') hX.ok.1 (by rw [argRd hst]; exact hX.ok.2 X.D X.rb w nn bs bad hst.st) ?_))
  rintro v w1 ⟨rfl, ho⟩
  have z0 : m < a.tmps.size := by rw [hst.size]; omega
  have g1 := (Ag.refl (fun j => m ≤ j ∧ j < m + 3) a).put (d := m) (by omega) z0 (.bool (!bad))
  have e1 : gt (a.put (some m) (.bool (!bad))) m = .bool (!bad) := by rw [gt_put z0, if_pos rfl]
  generalize a.put (some m) (.bool (!bad)) = a1 at g1 e1
  have z1 : m + 1 < a1.tmps.size := by rw [g1.size, hst.size]; omega
  refine wpC_val (runs_not (b := !bad) e1) (wpC_nil ?_)
  rw [Bool.not_not]
  have g2 := g1.put (d := m + 1) (by omega) z1 (.bool bad)
  have e2 : gt (a1.put (some (m + 1)) (.bool bad)) (m + 1) = .bool bad := by rw [gt_put z1, if_pos rfl]
  generalize a1.put (some (m + 1)) (.bool bad) = a2 at g2 e2
  refine wp_cond (t := bad) e2 ?_
  have st2 : St X a2 w1 nn bs bad := (hst.none ho).act (k := X.M0) (m := m) (g2.mono fun j hj => by unfold Ch; omega) (by omega) (by omega) (by omega)
  cases hb : bad with
  | true =>
    rw [if_pos rfl]
    refine wp_seq (wp_reg (wpC_call (R := fun v w' => IsErr bad v ∧ Only (fun _ => False) w1 w') hX.co.1 (by rw [argRd st2]; exact hX.co.2 X.D X.rb w1 nn bs bad st2.inv st2.st) ?_))
    rintro v w2 ⟨hv, ho2⟩
    have z2 : m + 2 < a2.tmps.size := by rw [st2.size]; omega
    have y1 : gt (a2.put (some (m + 2)) v) (m + 2) = v := by rw [gt_put z2, if_pos rfl]
    refine wpC_val (runs_assign _) (wpC_nil (wp_ret ?_))
    rw [evT, y1]
    refine ret hb _ w2 (by rw [defers_put, defers_put]; exact st2.defers) ?_ (ho.trans ho2)
    rw [gt_put (by rw [size_put, st2.size]; omega), if_pos rfl, ← hb]
    exact hv
  | false =>
    rw [if_neg (by decide)]
    exact wp_skip (good hb a2 w1 g2 ho)
end
end Go.Proofs.YtpefipjgcpchaaaGreatDoorR.Kf
