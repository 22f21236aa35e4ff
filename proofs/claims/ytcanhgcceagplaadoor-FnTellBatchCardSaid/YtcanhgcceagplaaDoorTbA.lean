/- Batches of records: the steps of the reference's writing and of the package's reading. -/
import Derived.Test.YtcanhgcceagplaaDoorReadI
import Derived.Test.YtcanhgcceagplaaDoorSpA
import Derived.Test.YtcanhgcceagplaaDoorKbA
import Derived.Test.YtcanhgcceagplaaDoorPD
import Derived.Test.YtcanhgcceagplaaDoorMsgA
import Derived.Test.YtcanhgcceagplaaDoorKbG
namespace Go.Proofs.YtcanhgcceagplaaDoor.Kf
set_option linter.unusedVariables false
set_option linter.unusedSimpArgs false
open Go Go.RowKit

section
variable {P : Program} {Q : Exit → Act → World → Prop} {a : Act} {w : World}

/-- Octets, wherever they are, are written behind what is there. -/
theorem wpC_app {cs : List Core} {dst : Option Tmp} (sl x : Operand) (t : TypeId) {base U : Nat} (hT : OctT P t U) {v u : Value} {ds s : List UInt8} {B : Nat} (hs : a.eval sl = v) (hown : Own U base w v ds) (hx : a.eval x = u) (hu : Oc w B u s) (hb : base ≤ w.heap.size) (hl : ds.length + s.length ≤ lim2)
    (h : ∀ v' w', Own U base w' v' (ds ++ s) → Only (fun j => base ≤ j) w w' → wpC P Q cs (a.put dst v') w') : wpC P Q (⟨dst, .call ⟨.builtin .append, #[sl, x], #[t, t]⟩, none⟩ :: cs) a w := by
  intro all pre os hall
  obtain ⟨o, os', e⟩ := mkOps_cons ⟨dst, .call ⟨.builtin .append, #[sl, x], #[t, t]⟩, none⟩ cs os
  rw [e] at hall ⊢
  obtain ⟨t1, i, t2, t3, t4, t5⟩ := hT
  exact wp_app_oc rfl sl x t rfl t1 t2 t3 t4 t5 hs hown hx hu hb hl fun v' w' h1 h2 => h v' w' h1 h2 all (pre ++ [mkOp ⟨dst, .call ⟨.builtin .append, #[sl, x], #[t, t]⟩, none⟩ o]) os' (by simpa using hall)

/-- spec.Fixed. -/
def FixC (P : Program) (U F : Nat) : Prop := Plain P F ∧ ∀ (w : World) (n : Int) (size : Nat), -9223372036854775808 ≤ n → n < 9223372036854775808 → size ≤ 8 → Calls P F #[.int .i64 n, .int .i64 size] w (SpP U w (beEnc size n))

/-- Where the writing of a batch stands: its box in the slot 1, what is written in the slot 3. -/
structure FB (U base bx N : Nat) (a : Act) (w : World) (ds : List UInt8) : Prop where
  size : a.tmps.size = N
  defers : a.defers = []
  bp : gt a 1 = .pointer (some ⟨bx, 0, none⟩)
  own : Own U base w (gt a 3) ds
  hb : base ≤ w.heap.size
theorem FB.next {U base bx N : Nat} {a a' : Act} {w w' : World} {ds ds' : List UInt8} {m : Nat} (h : FB U base bx N a w ds) (hm : 3 < m) (hag : Ag (fun j => j = 3 ∨ m ≤ j) a a') (ho : Own U base w' (gt a' 3) ds') (hw : w.heap.size ≤ w'.heap.size) : FB U base bx N a' w' ds' :=
  ⟨hag.size.trans h.size, hag.defers.trans h.defers, (hag.keep 1 (by omega)).trans h.bp, ho, Nat.le_trans h.hb hw⟩

/-- A number of the batch. -/
def gFx (F T i u t2 t3 sl m : Nat) (sz : Int) (cv : Bool) (c0 : Code) : Code :=
  if cv then reg [⟨some m, .move (.tmp 3), none⟩, ⟨some (m + 1), .fieldAddr T (.tmp 1) i, none⟩, ⟨some (m + 2), .load u (.tmp (m + 1)), none⟩, ⟨some (m + 3), .convert u t2 (.tmp (m + 2)), none⟩,
    ⟨some (m + 4), .call ⟨.value (.func F), #[.tmp (m + 3), .const (.int .i64 sz)], #[t2, t3]⟩, none⟩, ⟨some (m + 5), .call ⟨.builtin .append, #[.tmp m, .tmp (m + 4)], #[sl, sl]⟩, none⟩, ⟨some 3, .assign (.tmp (m + 5)), none⟩] c0
  else reg [⟨some m, .move (.tmp 3), none⟩, ⟨some (m + 1), .fieldAddr T (.tmp 1) i, none⟩, ⟨some (m + 2), .load u (.tmp (m + 1)), none⟩,
    ⟨some (m + 3), .call ⟨.value (.func F), #[.tmp (m + 2), .const (.int .i64 sz)], #[t2, t3]⟩, none⟩, ⟨some (m + 4), .call ⟨.builtin .append, #[.tmp m, .tmp (m + 3)], #[sl, sl]⟩, none⟩, ⟨some 3, .assign (.tmp (m + 4)), none⟩] c0
theorem args_fix {a : Act} {p : Nat} {x v : Value} (hx : gt a p = x) : (#[Operand.tmp p, .const v] : Array Operand).map a.eval = #[x, v] := by
  simp only [gt] at hx
  simp [Act.eval, hx]
/-- .. from the number on. -/
theorem fx_end {F sl t2 t3 m q U base bx N size : Nat} {n : Int} {ds : List UInt8} (hF : FixC P U F) (hT : OctT P sl U) (hs8 : size ≤ 8) (h0 : -9223372036854775808 ≤ n) (h1 : n < 9223372036854775808) {a0 : Act} (st : FB U base bx N a0 w ds) (hm : 3 < m) (hq : m < q) (hN : q + 2 < N)
    (hag : Ag (fun j => j = 3 ∨ m ≤ j) a0 a) (e0 : gt a m = gt a0 3) (e1 : gt a q = .int .i64 n) (hl : ds.length + 8 ≤ lim2)
    (h : ∀ a' w', FB U base bx N a' w' (ds ++ beEnc size n) → Only (fun j => base ≤ j) w w' → Q .normal a' w') :
    wpC P Q [⟨some (q + 1), .call ⟨.value (.func F), #[.tmp q, .const (.int .i64 (size : Int))], #[t2, t3]⟩, none⟩, ⟨some (q + 2), .call ⟨.builtin .append, #[.tmp m, .tmp (q + 1)], #[sl, sl]⟩, none⟩, ⟨some 3, .assign (.tmp (q + 2)), none⟩] a w := by
  have hsz : a.tmps.size = N := hag.size.trans st.size
  refine wpC_call (R := fun v w' => Own U w.heap.size w' v (beEnc size n) ∧ Only (fun _ => False) w w') hF.1 (by rw [args_fix e1]; exact hF.2 w n size h0 h1 hs8) ?_
  rintro v w1 ⟨hv, ho⟩
  have z1 : q + 1 < a.tmps.size := by omega
  have g1 := hag.put (d := q + 1) (by omega) z1 v
  have f1 : gt (a.put (some (q + 1)) v) (q + 1) = v := by rw [gt_put z1, if_pos rfl]
  have f1m : gt (a.put (some (q + 1)) v) m = gt a0 3 := by rw [gt_put z1, if_neg (by omega)]; exact e0
  generalize a.put (some (q + 1)) v = a1 at g1 f1 f1m
  refine wpC_app (.tmp m) (.tmp (q + 1)) sl (base := base) (v := gt a0 3) (u := v) (ds := ds) (s := beEnc size n) (B := w1.heap.size) hT f1m (Own.keep st.own ho) f1 hv.oc (Nat.le_trans st.hb ho.size) (by rw [beEnc_length]; omega) ?_
  intro v2 w2 hv2 ho2
  have z2 : q + 2 < a1.tmps.size := by rw [g1.size, st.size]; omega
  have g2 := g1.put (d := q + 2) (by omega) z2 v2
  have f2 : gt (a1.put (some (q + 2)) v2) (q + 2) = v2 := by rw [gt_put z2, if_pos rfl]
  generalize a1.put (some (q + 2)) v2 = a2 at g2 f2
  refine wpC_val (runs_assign _) (wpC_nil ?_)
  rw [evT, f2]
  have z3 : 3 < a2.tmps.size := by rw [g2.size, st.size]; omega
  have g3 := g2.put (d := 3) (.inl rfl) z3 v2
  exact h _ w2 (st.next hm g3 (by rw [gt_put z3, if_pos rfl]; exact hv2) (Nat.le_trans ho.size ho2.size)) ((ho.mono fun _ _ h => h.elim).trans ho2)
theorem gFx_wp {F T i u t2 t3 sl m U base bx N size : Nat} {k : IntKind} {n : Int} {cv : Bool} {c0 : Code} {ds : List UInt8} (hF : FixC P U F) (hT : OctT P sl U) (hf : FieldAt P T i i u 1) (hu : One P u) (hk : P.underlying u = some (.int k)) (hk2 : P.underlying t2 = some (.int .i64)) (hkc : cv = false → k = .i64)
    (hs8 : size ≤ 8) (h0 : -9223372036854775808 ≤ n) (h1 : n < 9223372036854775808) (st : FB U base bx N a w ds) (hc : w.cell? ⟨bx, i, none⟩ = some (.int k n)) (hm : 3 < m) (hN : m + 6 ≤ N) (hl : ds.length + 8 ≤ lim2)
    (h : ∀ a' w', FB U base bx N a' w' (ds ++ beEnc size n) → Only (fun j => base ≤ j) w w' → Q .normal a' w') : (gFx F T i u t2 t3 sl m (size : Int) cv c0).wp P Q a w := by
  have hsz := st.size
  have z0 : m < a.tmps.size := by omega
  have main : ∀ cs, (∀ a2, Ag (fun j => j = 3 ∨ m ≤ j) a a2 → gt a2 m = gt a 3 → gt a2 (m + 2) = .int k n → wpC P Q cs a2 w) → wpC P Q (⟨some m, .move (.tmp 3), none⟩ :: ⟨some (m + 1), .fieldAddr T (.tmp 1) i, none⟩ :: ⟨some (m + 2), .load u (.tmp (m + 1)), none⟩ :: cs) a w := by
    intro cs hcs
    refine wpC_val (runs_move _) ?_
    rw [evT]
    have g1 := (Ag.refl (fun j => j = 3 ∨ m ≤ j) a).put (d := m) (by omega) z0 (gt a 3)
    have e1 : gt (a.put (some m) (gt a 3)) m = gt a 3 := by rw [gt_put z0, if_pos rfl]
    generalize a.put (some m) (gt a 3) = a1 at g1 e1
    refine wpC_val (runs_fieldAddr hf (p := ⟨bx, 0, none⟩) (by rw [evT, g1.keep 1 (by omega)]; exact st.bp)) ?_
    rw [Addr.add_lit, Nat.zero_add]
    have z1 : m + 1 < a1.tmps.size := by rw [g1.size]; omega
    have g2 := g1.put (d := m + 1) (by omega) z1 (.pointer (some ⟨bx, i, none⟩))
    have e2 : gt (a1.put (some (m + 1)) (.pointer (some ⟨bx, i, none⟩))) (m + 1) = .pointer (some ⟨bx, i, none⟩) := by rw [gt_put z1, if_pos rfl]
    have e2m : gt (a1.put (some (m + 1)) (.pointer (some ⟨bx, i, none⟩))) m = gt a 3 := by rw [gt_put z1, if_neg (by omega)]; exact e1
    generalize a1.put (some (m + 1)) (.pointer (some ⟨bx, i, none⟩)) = a2 at g2 e2 e2m
    refine wpC_val (runs_load hu e2 hc) ?_
    have z2 : m + 2 < a2.tmps.size := by rw [g2.size]; omega
    have g3 := g2.put (d := m + 2) (by omega) z2 (.int k n)
    exact hcs _ g3 (by rw [gt_put z2, if_neg (by omega)]; exact e2m) (by rw [gt_put z2, if_pos rfl])
  cases cv with
  | true =>
    refine wp_reg (main _ fun a2 g2 e2m e2 => ?_)
    refine wpC_val (runs_conv hk hk2 e2) ?_
    rw [IntWalk.i64_in n (by omega)]
    have z3 : m + 3 < a2.tmps.size := by rw [g2.size]; omega
    have g3 := g2.put (d := m + 3) (by omega) z3 (.int .i64 n)
    exact fx_end (m := m) (q := m + 3) hF hT hs8 h0 h1 st hm (by omega) (by omega) g3 (by rw [gt_put z3, if_neg (by omega)]; exact e2m) (by rw [gt_put z3, if_pos rfl]) hl h
  | false =>
    obtain rfl := hkc rfl
    refine wp_reg (main _ fun a2 g2 e2m e2 => ?_)
    exact fx_end (m := m) (q := m + 2) hF hT hs8 h0 h1 st hm (by omega) (by omega) g2 e2m e2 hl h

theorem runs_build1x {sl U : Nat} (hT : OctT P sl U) {x : Operand} {z : Int} (hx : a.eval x = .int .u8 z) : Runs P a w (.buildSlice sl 1 #[(0, x)]) (.slice (some ⟨w.heap.size, 0, none⟩) 1 1) (w.alloc (.cells #[.int .u8 z] U)) := by
  intro o h
  obtain ⟨h1, i, h2, h3, h4, h5⟩ := hT
  simp [execOp, h, Instr.buildSlice, run_underlying h1, sizeOf, typeInfo, h2, h3, h4, zeroValue, Instr.fill, newRow, hx, Value.cells, Array.range_succ, Array.range_zero']
/-- Its one number of one octet. -/
def gFy (T i u t5 sl m : Nat) (c0 : Code) : Code :=
  reg [⟨some m, .move (.tmp 3), none⟩, ⟨some (m + 1), .fieldAddr T (.tmp 1) i, none⟩, ⟨some (m + 2), .load u (.tmp (m + 1)), none⟩, ⟨some (m + 3), .convert u t5 (.tmp (m + 2)), none⟩,
    ⟨some (m + 4), .buildSlice sl 1 #[(0, .tmp (m + 3))], none⟩, ⟨some (m + 5), .call ⟨.builtin .append, #[.tmp m, .tmp (m + 4)], #[sl, sl]⟩, none⟩, ⟨some 3, .assign (.tmp (m + 5)), none⟩] c0
theorem gFy_wp {T i u t5 sl m U base bx N : Nat} {k : IntKind} {n : Int} {c0 : Code} {ds : List UInt8} (hT : OctT P sl U) (hf : FieldAt P T i i u 1) (hu : One P u) (hk : P.underlying u = some (.int k)) (hk5 : P.underlying t5 = some (.int .u8))
    (st : FB U base bx N a w ds) (hc : w.cell? ⟨bx, i, none⟩ = some (.int k n)) (hm : 3 < m) (hN : m + 6 ≤ N) (hl : ds.length + 8 ≤ lim2)
    (h : ∀ a' w', FB U base bx N a' w' (ds ++ beEnc 1 n) → Only (fun j => base ≤ j) w w' → Q .normal a' w') : (gFy T i u t5 sl m c0).wp P Q a w := by
  have hsz := st.size
  have z0 : m < a.tmps.size := by omega
  refine wp_reg (wpC_val (runs_move _) ?_)
  rw [evT]
  have g1 := (Ag.refl (fun j => j = 3 ∨ m ≤ j) a).put (d := m) (by omega) z0 (gt a 3)
  have e1 : gt (a.put (some m) (gt a 3)) m = gt a 3 := by rw [gt_put z0, if_pos rfl]
  generalize a.put (some m) (gt a 3) = a1 at g1 e1
  refine wpC_val (runs_fieldAddr hf (p := ⟨bx, 0, none⟩) (by rw [evT, g1.keep 1 (by omega)]; exact st.bp)) ?_
  rw [Addr.add_lit, Nat.zero_add]
  have z1 : m + 1 < a1.tmps.size := by rw [g1.size]; omega
  have g2 := g1.put (d := m + 1) (by omega) z1 (.pointer (some ⟨bx, i, none⟩))
  have e2 : gt (a1.put (some (m + 1)) (.pointer (some ⟨bx, i, none⟩))) (m + 1) = .pointer (some ⟨bx, i, none⟩) := by rw [gt_put z1, if_pos rfl]
  have e2m : gt (a1.put (some (m + 1)) (.pointer (some ⟨bx, i, none⟩))) m = gt a 3 := by rw [gt_put z1, if_neg (by omega)]; exact e1
  generalize a1.put (some (m + 1)) (.pointer (some ⟨bx, i, none⟩)) = a2 at g2 e2 e2m
  refine wpC_val (runs_load hu e2 hc) ?_
  have z2 : m + 2 < a2.tmps.size := by rw [g2.size]; omega
  have g3 := g2.put (d := m + 2) (by omega) z2 (.int k n)
  have e3 : gt (a2.put (some (m + 2)) (.int k n)) (m + 2) = .int k n := by rw [gt_put z2, if_pos rfl]
  have e3m : gt (a2.put (some (m + 2)) (.int k n)) m = gt a 3 := by rw [gt_put z2, if_neg (by omega)]; exact e2m
  generalize a2.put (some (m + 2)) (.int k n) = a3 at g3 e3 e3m
  refine wpC_val (runs_conv hk hk5 e3) ?_
  rw [IntKind.wrap_u8]
  have z3 : m + 3 < a3.tmps.size := by rw [g3.size]; omega
  have g4 := g3.put (d := m + 3) (by omega) z3 (.int .u8 (n % 256))
  have e4 : gt (a3.put (some (m + 3)) (.int .u8 (n % 256))) (m + 3) = .int .u8 (n % 256) := by rw [gt_put z3, if_pos rfl]
  have e4m : gt (a3.put (some (m + 3)) (.int .u8 (n % 256))) m = gt a 3 := by rw [gt_put z3, if_neg (by omega)]; exact e3m
  generalize a3.put (some (m + 3)) (.int .u8 (n % 256)) = a4 at g4 e4 e4m
  refine wpC_val (runs_build1x hT e4) ?_
  have z4 : m + 4 < a4.tmps.size := by rw [g4.size]; omega
  have g5 := g4.put (d := m + 4) (by omega) z4 (.slice (some ⟨w.heap.size, 0, none⟩) 1 1)
  have e5 : gt (a4.put (some (m + 4)) (.slice (some ⟨w.heap.size, 0, none⟩) 1 1)) (m + 4) = .slice (some ⟨w.heap.size, 0, none⟩) 1 1 := by rw [gt_put z4, if_pos rfl]
  have e5m : gt (a4.put (some (m + 4)) (.slice (some ⟨w.heap.size, 0, none⟩) 1 1)) m = gt a 3 := by rw [gt_put z4, if_neg (by omega)]; exact e4m
  generalize a4.put (some (m + 4)) (.slice (some ⟨w.heap.size, 0, none⟩) 1 1) = a5 at g5 e5 e5m
  have oal : Only (fun _ => False) w (w.alloc (.cells #[.int .u8 (n % 256)] U)) := ⟨rfl, rfl, rfl, by simp, fun q hq _ => by show (w.heap.push _)[q]? = _; rw [Array.getElem?_push, if_neg (by omega)]⟩
  have hoc : Oc (w.alloc (.cells #[.int .u8 (n % 256)] U)) (w.heap.size + 1) (.slice (some ⟨w.heap.size, 0, none⟩) 1 1) (beEnc 1 n) := by
    refine .inr ⟨⟨w.heap.size, 0, none⟩, 1, rfl, Nat.le_refl _, fun j b hb => ?_⟩
    match j, hb with
    | 0, hb =>
      simp [beEnc] at hb
      subst hb
      refine ⟨by show w.heap.size < _; omega, ?_⟩
      rw [u8v_byteOf]
      show World.cell? (w.alloc (.cells #[.int .u8 (n % 256)] U)) ⟨w.heap.size, 0 + 0, none⟩ = _
      rw [World.cell?_alloc_mark]; rfl
    | j + 1, hb => simp [beEnc] at hb
  refine wpC_app (.tmp m) (.tmp (m + 4)) sl (base := base) (v := gt a 3) (ds := ds) (s := beEnc 1 n) hT e5m (Own.keep st.own oal) e5 hoc (Nat.le_trans st.hb oal.size) (by rw [beEnc_length]; omega) ?_
  intro v2 w2 hv2 ho2
  have z5 : m + 5 < a5.tmps.size := by rw [g5.size]; omega
  have g6 := g5.put (d := m + 5) (by omega) z5 v2
  have e6 : gt (a5.put (some (m + 5)) v2) (m + 5) = v2 := by rw [gt_put z5, if_pos rfl]
  generalize a5.put (some (m + 5)) v2 = a6 at g6 e6
  refine wpC_val (runs_assign _) (wpC_nil ?_)
  rw [evT, e6]
  have z6 : 3 < a6.tmps.size := by rw [g6.size]; omega
  have g7 := g6.put (d := 3) (.inl rfl) z6 v2
  exact h _ w2 (st.next hm g7 (by rw [gt_put z6, if_pos rfl]; exact hv2) (Nat.le_trans oal.size ho2.size)) ((oal.mono fun _ _ h => h.elim).trans ho2)

/-- The rest of a batch's numbers: type, kind, octets, how (0: as it is, 1: converted, 2: one octet). -/
structure BI where
  u : Nat
  k : IntKind
  size : Nat
  how : Nat
def BI.t (b : BI) : Nat := if b.how = 0 then 5 else 6
def gBs (F T t2 t3 t5 sl : Nat) : List BI → (i m : Nat) → (Nat → Code → Code) → Code → Code
  | [], i, m, tail, c => tail m c
  | b :: l, i, m, tail, c => .seq (if b.how = 2 then gFy T i b.u t5 sl m (pc c [0]) else gFx F T i b.u t2 t3 sl m (b.size : Int) (b.how == 1) (pc c [0])) (gBs F T t2 t3 t5 sl l (i + 1) (m + b.t) tail (pc c [1]))
def bsT (l : List BI) : Nat := (l.map BI.t).foldr (· + ·) 0
def BI.ok (P : Program) (T i : Nat) (b : BI) : Prop := FieldAt P T i i b.u 1 ∧ One P b.u ∧ P.underlying b.u = some (.int b.k) ∧ b.size ≤ 8 ∧ (b.how ≠ 1 → b.how ≠ 2 → b.k = .i64) ∧ (b.how = 2 → b.size = 1)
def bsOk (P : Program) (T : Nat) : List BI → Nat → Prop
  | [], _ => True
  | b :: l, i => b.ok P T i ∧ bsOk P T l (i + 1)
/-- What is written of numbers. -/
def bsB : List BI → List Int → List UInt8
  | b :: l, n :: ns => beEnc b.size n ++ bsB l ns
  | _, _ => []
def bsC (w : World) (bx : Nat) : List BI → List Int → Nat → Prop
  | b :: l, n :: ns, i => w.cell? ⟨bx, i, none⟩ = some (.int b.k n) ∧ (-9223372036854775808 ≤ n ∧ n < 9223372036854775808) ∧ bsC w bx l ns (i + 1)
  | [], [], _ => True
  | _, _, _ => False
theorem bsC.keep {w w' : World} {bx : Nat} (hk : w'.heap[bx]? = w.heap[bx]?) : ∀ {l : List BI} {ns : List Int} {i : Nat}, bsC w bx l ns i → bsC w' bx l ns i := by
  intro l
  induction l with
  | nil => intro ns i h; cases ns <;> exact h
  | cons b l ih =>
    intro ns i h
    cases ns with
    | nil => exact h
    | cons n ns => exact ⟨(World.cell?_of_block (w := w) hk).trans h.1, h.2.1, ih h.2.2⟩
theorem bsB_len : ∀ (l : List BI) (ns : List Int), (∀ b ∈ l, b.size ≤ 8) → (bsB l ns).length ≤ 8 * l.length := by
  intro l
  induction l with
  | nil => intro ns _; simp [bsB]
  | cons b l ih =>
    intro ns h
    cases ns with
    | nil => simp [bsB]
    | cons n ns =>
      have h1 := h b (by simp)
      have h2 := ih ns fun x hx => h x (by simp [hx])
      simp only [bsB, List.length_append, beEnc_length, List.length_cons]
      omega
theorem gBs_wp {F T t2 t3 t5 sl U base bx N : Nat} {tail : Nat → Code → Code} (hF : FixC P U F) (hT : OctT P sl U) (hk2 : P.underlying t2 = some (.int .i64)) (hk5 : P.underlying t5 = some (.int .u8)) (hbx : bx < base) :
    ∀ (l : List BI) (ns : List Int) (i m : Nat) (c0 : Code) (a : Act) (w : World) (ds : List UInt8), bsOk P T l i → bsC w bx l ns i → FB U base bx N a w ds → 3 < m → m + bsT l < N → ds.length + 8 * l.length + 8 ≤ lim2 →
    (∀ c a' w', FB U base bx N a' w' (ds ++ bsB l ns) → Only (fun j => base ≤ j) w w' → (tail (m + bsT l) c).wp P Q a' w') → (gBs F T t2 t3 t5 sl l i m tail c0).wp P Q a w := by
  intro l
  induction l with
  | nil =>
    intro ns i m c0 a w ds _ hc st hm hN hl h
    have := h c0 a w (by cases ns <;> simpa [bsB] using st) (Only.refl _ _)
    have e : m + bsT [] = m := rfl
    rw [e] at this
    exact this
  | cons b l ih =>
    intro ns i m c0 a w ds hok hc st hm hN hl h
    obtain ⟨⟨o1, o2, o3, o4, o5, o6⟩, hok⟩ := hok
    cases ns with
    | nil => exact hc.elim
    | cons n ns =>
      obtain ⟨c1, ⟨r0, r1⟩, hc⟩ := hc
      have ht : bsT (b :: l) = b.t + bsT l := rfl
      rw [ht] at hN h
      simp only [List.length_cons] at hl
      have rest : ∀ a' w', FB U base bx N a' w' (ds ++ beEnc b.size n) → Only (fun j => base ≤ j) w w' → (gBs F T t2 t3 t5 sl l (i + 1) (m + b.t) tail (pc c0 [1])).wp P Q a' w' := by
        intro a' w' st' ho
        refine ih ns (i + 1) (m + b.t) _ a' w' _ hok (hc.keep (ho.block bx (by have := st.hb; omega) (by omega))) st' (by omega) (by omega) (by rw [List.length_append, beEnc_length]; omega) fun c a2 w2 st2 ho2 => ?_
        have := h c a2 w2 (by simpa [bsB, List.append_assoc] using st2) (ho.trans ho2)
        rwa [Nat.add_assoc]
      have ht5 : 5 ≤ b.t ∧ (b.how ≠ 0 → b.t = 6) := by unfold BI.t; split <;> omega
      refine wp_seq ?_
      by_cases h2 : b.how = 2
      · rw [if_pos h2]
        have hs1 := o6 h2
        rw [hs1] at rest
        exact gFy_wp hT o1 o2 o3 hk5 st c1 hm (by have := ht5.2 (by omega); omega) (by omega) rest
      · rw [if_neg h2]
        by_cases h1 : b.how = 1
        · have e1 : (b.how == 1) = true := by rw [h1]; rfl
          rw [e1]
          exact gFx_wp hF hT o1 o2 o3 hk2 (fun e => by cases e) o4 r0 r1 st c1 hm (by have := ht5.2 (by omega); omega) (by omega) rest
        · have e1 : (b.how == 1) = false := by simpa using h1
          rw [e1]
          exact gFx_wp hF hT o1 o2 o3 hk2 (fun _ => o5 h1 h2) o4 r0 r1 st c1 hm (by omega) (by omega) rest
end
end Go.Proofs.YtcanhgcceagplaaDoor.Kf
