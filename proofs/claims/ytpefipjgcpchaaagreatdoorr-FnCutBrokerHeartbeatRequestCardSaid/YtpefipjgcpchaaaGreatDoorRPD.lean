/- Writing, the first part: what the functions that write must do (as hypotheses), and the code that writes one value. -/
import Derived.Test.YtpefipjgcpchaaaGreatDoorRPE
import Derived.WalkSpells
import Derived.Laws.AppendOwnNone
import Derived.Laws.Pointers
import Derived.Test.YtpefipjgcpchaaaGreatDoorRPC
namespace Go.Proofs.YtpefipjgcpchaaaGreatDoorR.Kf
set_option linter.unusedVariables false
set_option linter.unusedSimpArgs false
open Go Go.RowKit

/-- The most octets that are written. -/
def lim2 : Nat := 70368744177664

/-- A slice of the call's own that holds the octets (U: the octets' type; its block lies from base on). -/
def Own (U base : Nat) (w : World) (v : Value) (bs : List UInt8) : Prop := w.ownsRow base U 1 v bs.length (bs.map u8v)

/-- The value that a variable of a leaf's kind holds. -/
def valOf : RK → List Value → Value
  | .prim .uuid, cs => .agg cs.toArray
  | .tags, cs => .agg cs.toArray
  | _, cs => cs.headD undef

/-- The function F writes a value of the kind k behind octets. -/
def AppC (P : Program) (U F : Nat) (k : RK) : Prop := Plain P F ∧ ∀ (D base : Nat) (w : World) (dst : Value) (ds : List UInt8) (lo hi : Nat) (cs : List Value) (x : Val), Own U base w dst ds → k.leaf D w lo hi cs x → wf k.m.w x → D < base →
  base ≤ w.heap.size → ds.length + (enc k.m.w x).length + 16 ≤ lim2 →
  Calls P F #[dst, valOf k cs] w fun e w' => ∃ v, e = .returned v ∧ (Own U base w' v (ds ++ enc k.m.w x) ∧ Only (fun j => base ≤ j) w w')

/-- The function F writes how many things a list has. -/
def ALenC (P : Program) (U F : Nat) (c nl : Bool) : Prop := Plain P F ∧ ∀ (base : Nat) (w : World) (dst : Value) (ds : List UInt8) (n : Nat) (isNil : Bool), Own U base w dst ds → n ≤ 2147483646 → (isNil = true → nl = true) →
  base ≤ w.heap.size → ds.length + 10 ≤ lim2 →
  Calls P F (if nl then #[dst, .int .i64 n, .bool isNil] else #[dst, .int .i64 n]) w fun e w' => ∃ v, e = .returned v ∧ (Own U base w' v (ds ++ cntEnc c 4 (if isNil then none else some n)) ∧ Only (fun j => base ≤ j) w w')

/-- The number of tags, and the function that writes a number in groups, and the one that writes all tags. -/
def TLenC (P : Program) (F : Nat) : Prop := Plain P F ∧ ∀ (D : Nat) (w : World) (b off lo hi : Nat) (cs : List Value) (l : List (Nat × List UInt8)), Cells w b off cs → LTags D w lo hi cs (.tags l) →
  Calls P F #[.pointer (some ⟨b, off, none⟩)] w fun e w' => ∃ v, e = .returned v ∧ (v = .int .i64 (l.length : Nat) ∧ Only (fun _ => False) w w')
def UvC (P : Program) (U F : Nat) : Prop := Plain P F ∧ ∀ (base : Nat) (w : World) (dst : Value) (ds : List UInt8) (n : Nat), Own U base w dst ds → n < 4294967296 → base ≤ w.heap.size → ds.length + 10 ≤ lim2 →
  Calls P F #[dst, .int .u32 n] w fun e w' => ∃ v, e = .returned v ∧ (Own U base w' v (ds ++ uvEnc n) ∧ Only (fun j => base ≤ j) w w')
/-- q: at any tags; else only where no map can be. -/
def TEachC (P : Program) (U F : Nat) (q : Bool) : Prop := Plain P F ∧ ∀ (D base : Nat) (w : World) (dst : Value) (ds : List UInt8) (b off lo hi : Nat) (cs : List Value) (l : List (Nat × List UInt8)), Own U base w dst ds → Cells w b off cs → LTags D w lo hi cs (.tags l) →
  upTags 0 l → l.length < 4294967296 → b < base → hi ≤ base → (q = false → base ≤ lo) → D < base → base ≤ w.heap.size → ds.length + (encTags l).length + 16 ≤ lim2 →
  Calls P F #[.pointer (some ⟨b, off, none⟩), dst] w fun e w' => ∃ v, e = .returned v ∧ (Own U base w' v (ds ++ encTags l) ∧ Only (fun j => base ≤ j) w w')

/-- The numbers that the code names. -/
structure Hn where
  sl : Nat
  u8 : Nat
  int : Nat
  bool : Nat
  i16 : Nat
  u32 : Nat
  tg : Nat

structure AX where
  P : Program
  G : Hn
  D : Nat
  base : Nat
  ver : Int
  fx : Bool
  flex : Bool
  N : Nat
  M0 : Nat
  q : Bool

/-- The slot of the flag, if there is one (else that of the version). -/
def AX.fs (X : AX) : Nat := if X.fx = true then 6 else 5
theorem AX.fs_le (X : AX) : 5 ≤ X.fs ∧ X.fs ≤ 6 := by unfold AX.fs; split <;> omega
theorem AX.fs6 {X : AX} (h : X.fx = true) : X.fs = 6 := by unfold AX.fs; rw [if_pos h]
/-- Where a writing stands: the octets that have been written. -/
structure SA (X : AX) (a : Act) (w : World) (ds : List UInt8) : Prop where
  size : a.tmps.size = X.N
  defers : a.defers = []
  ver : gt a 5 = .int .i16 X.ver
  fl : X.fx = true → gt a 6 = .bool X.flex
  own : Own X.G.u8 X.base w (gt a 1) ds
  base : X.base ≤ w.heap.size
  db : X.D < X.base

/-- The slots that a piece of code that writes may change: the octets' slice, variables from k on, and what stands behind m. -/
def Cw (M0 k m : Nat) (j : Nat) : Prop := j = 1 ∨ (k ≤ j ∧ j < M0) ∨ m ≤ j

theorem Ag.cw {M0 k m k' m' : Nat} {a b : Act} (h : Ag (Cw M0 k' m') a b) (hk : k ≤ k') (hm : m ≤ m') : Ag (Cw M0 k m) a b :=
  h.mono fun j hj => by unfold Cw at *; omega

theorem SA.next {X : AX} {a a' : Act} {w w' : World} {ds ds' : List UInt8} {k m : Nat} (h : SA X a w ds) (ha : Ag (Cw X.M0 k m) a a') (hk : X.fs < k) (hm : 6 < m) (ho : Own X.G.u8 X.base w' (gt a' 1) ds') (hw : Only (fun j => X.base ≤ j) w w') : SA X a' w' ds' := by
  have hfs := X.fs_le
  have hn : ∀ j, j = 5 ∨ j = X.fs → ¬ Cw X.M0 k m j := fun j hj => by unfold Cw; omega
  exact ⟨ha.size.trans h.size, ha.defers.trans h.defers, (ha.keep 5 (hn _ (.inl rfl))).trans h.ver, fun hf => by
    have := ha.keep X.fs (hn _ (.inr rfl))
    rw [AX.fs6 hf] at this
    exact this.trans (h.fl hf), ho, Nat.le_trans h.base hw.size, h.db⟩

/-- A step that writes nothing and leaves the slice alone. -/
theorem SA.act {X : AX} {a a' : Act} {w : World} {ds : List UInt8} {S : Nat → Prop} (h : SA X a w ds) (ha : Ag S a a') (h1 : ¬ S 1) (h5 : ¬ S 5) (h6 : ¬ S X.fs) : SA X a' w ds :=
  ⟨ha.size.trans h.size, ha.defers.trans h.defers, (ha.keep 5 h5).trans h.ver, fun hf => by
    have := ha.keep X.fs h6
    rw [AX.fs6 hf] at this
    exact this.trans (h.fl hf), by rw [ha.keep 1 h1]; exact h.own, h.base, h.db⟩

theorem Own.keep {U base : Nat} {w w' : World} {v : Value} {bs : List UInt8} (h : Own U base w v bs) (ho : Only (fun _ => False) w w') : Own U base w' v bs :=
  World.ownsRow.kept (row := none) h ⟨ho.os, ho.tape, ho.output, ho.size, fun k hk _ => ho.block k hk id⟩ (by cases hv : v.ownBlock <;> simp)

/-! ### writing one value -/

inductive AV
  | one (k : RK) (F : Nat)
  | two (kc kp : RK) (Fc Fp : Nat)
  | uid (F ub : Nat)
  | en (k : RK) (F u : Nat)

def AV.rk (flex : Bool) : AV → RK
  | .one k _ => k
  | .two kc kp _ _ => if flex then kc else kp
  | .uid _ _ => .prim .uuid
  | .en k _ _ => k
/-- How many variables. -/
def AV.kn : AV → Nat
  | .en _ _ _ => 2
  | _ => 1
theorem AV.kn_pos (v : AV) : 1 ≤ v.kn := by cases v <;> simp [AV.kn]
/-- The type of the box in which its variable lies, if it lies in one. -/
def AV.bx : AV → Option Nat
  | .uid _ ub => some ub
  | _ => none
def AV.t : AV → Nat
  | .one _ _ => 3
  | .two _ _ _ _ => 7
  | .uid _ _ => 3
  | .en _ _ _ => 4
def AV.ok (P : Program) (U : Nat) (fx : Bool) : AV → Prop
  | .one k F => AppC P U F k
  | .two kc kp Fc Fp => fx = true ∧ AppC P U Fc kc ∧ AppC P U Fp kp
  | .uid F ub => AppC P U F (.prim .uuid) ∧ BxT P ub 16
  | .en k F _ => AppC P U F k
theorem AV.box {P : Program} {U : Nat} {fx : Bool} {v : AV} (h : v.ok P U fx) (f : Bool) : ∀ ub, v.bx = some ub → BxT P ub (v.rk f).n ∧ ∀ cs : List Value, valOf (v.rk f) cs = .agg cs.toArray := by
  cases v <;> intro u e <;> first | (cases e; done) | (injection e with e; subst e; exact ⟨h.2, fun _ => rfl⟩)

/-- A call with the octets and a variable. -/
def gApp (G : Hn) (F u k m : Nat) (c : Code) : Code := reg [⟨some m, .move (.tmp 1), none⟩, ⟨some (m + 1), .move (.tmp k), none⟩, ⟨some (m + 2), .call ⟨.value (.func F), #[.tmp m, .tmp (m + 1)], #[G.sl, u]⟩, none⟩, ⟨some 1, .assign (.tmp (m + 2)), none⟩] c
def gAppB (G : Hn) (F u ub k m : Nat) (c : Code) : Code := reg [⟨some m, .move (.tmp 1), none⟩, ⟨some (m + 1), .load ub (.tmp k), none⟩, ⟨some (m + 2), .call ⟨.value (.func F), #[.tmp m, .tmp (m + 1)], #[G.sl, u]⟩, none⟩, ⟨some 1, .assign (.tmp (m + 2)), none⟩] c

def gAV (G : Hn) (u k m : Nat) : AV → Code → Code
  | .one _ F, c => gApp G F u k m c
  | .uid F ub, c => gAppB G F u ub k m c
  | .en _ F u2, c => .seq (gCopy k (k + 1) m (pc c [0])) (gApp G F u2 (k + 1) (m + 1) (pc c [1]))
  | .two _ _ Fc Fp, c => .seq (gMove 6 m (pc c [0])) (.cond (.tmp m) (gApp G Fc u k (m + 1) (pc c [1, 0])) (gApp G Fp u k (m + 4) (pc c [1, 1])))

section
variable {X : AX} {Q : Exit → Act → World → Prop}

theorem gMove_wp' {P : Program} {s m : Nat} {c0 : Code} {a : Act} {w : World} (hN : m < a.tmps.size) (h : Q .normal (a.put (some m) (gt a s)) w) : (gMove s m c0).wp P Q a w :=
  wp_reg (wpC_val (runs_move _) (wpC_nil h))

theorem args2 {a : Act} {p q : Nat} {x y : Value} (hx : gt a p = x) (hy : gt a q = y) : (#[Operand.tmp p, Operand.tmp q] : Array Operand).map a.eval = #[x, y] := by
  simp only [gt] at hx hy
  simp [Act.eval, hx, hy]
theorem args1 {a : Act} {p : Nat} {x : Value} (hx : gt a p = x) : (#[Operand.tmp p] : Array Operand).map a.eval = #[x] := by
  simp only [gt] at hx
  simp [Act.eval, hx]
theorem args3 {a : Act} {p q r : Nat} {x y z : Value} (hx : gt a p = x) (hy : gt a q = y) (hz : gt a r = z) : (#[Operand.tmp p, Operand.tmp q, Operand.tmp r] : Array Operand).map a.eval = #[x, y, z] := by
  simp only [gt] at hx hy hz
  simp [Act.eval, hx, hy, hz]

theorem gApp_wp {F u k m k0 m0 lo hi : Nat} {c0 : Code} {rk : RK} {cs : List Value} {x : Val} (hF : AppC X.P X.G.u8 F rk) {a0 a : Act} {w : World} {ds : List UInt8} (hst : SA X a w ds) (h0 : Ag (Cw X.M0 k0 m0) a0 a) (hv : gt a k = valOf rk cs) (hx : rk.leaf X.D w lo hi cs x) (hw : wf rk.m.w x)
    (hl : ds.length + (enc rk.m.w x).length + 16 ≤ lim2) (hk0 : X.fs < k0) (hk : k < m) (h1 : k ≠ 1) (hm : m0 ≤ m) (hm1 : 6 < m0) (hN : m + 3 ≤ X.N)
    (h : ∀ a' w', Ag (Cw X.M0 k0 m0) a0 a' → Only (fun j => X.base ≤ j) w w' → SA X a' w' (ds ++ enc rk.m.w x) → Q .normal a' w') : (gApp X.G F u k m c0).wp X.P Q a w := by
  have hfs := X.fs_le
  refine wp_reg (wpC_val (runs_move _) ?_)
  have z0 : m < a.tmps.size := by rw [hst.size]; omega
  have g1 := (Ag.refl (Tm m) a).put (d := m) (by unfold Tm; omega) z0 (a.eval (.tmp 1))
  have e1 : gt (a.put (some m) (a.eval (.tmp 1))) m = gt a 1 := by rw [gt_put z0, if_pos rfl]; rfl
  have e1k : gt (a.put (some m) (a.eval (.tmp 1))) k = valOf rk cs := by rw [gt_put z0, if_neg (by omega)]; exact hv
  generalize a.put (some m) (a.eval (.tmp 1)) = a1 at g1 e1 e1k
  refine wpC_val (runs_move _) ?_
  rw [evT, e1k]
  have z1 : m + 1 < a1.tmps.size := by rw [g1.size, hst.size]; omega
  have g2 := g1.put (d := m + 1) (by unfold Tm; omega) z1 (valOf rk cs)
  have e2 : gt (a1.put (some (m + 1)) (valOf rk cs)) (m + 1) = valOf rk cs := by rw [gt_put z1, if_pos rfl]
  have e2b : gt (a1.put (some (m + 1)) (valOf rk cs)) m = gt a 1 := by rw [gt_put z1, if_neg (by omega)]; exact e1
  generalize a1.put (some (m + 1)) (valOf rk cs) = a2 at g2 e2 e2b
  refine wpC_call (R := fun v w' => Own X.G.u8 X.base w' v (ds ++ enc rk.m.w x) ∧ Only (fun j => X.base ≤ j) w w') hF.1 (by rw [args2 e2b e2]; exact hF.2 X.D X.base w _ ds lo hi cs x hst.own hx hw hst.db hst.base hl) ?_
  rintro v w1 ⟨hv1, ho1⟩
  have z2 : m + 2 < a2.tmps.size := by rw [g2.size, hst.size]; omega
  have g3 := g2.put (d := m + 2) (by unfold Tm; omega) z2 v
  have e3 : gt (a2.put (some (m + 2)) v) (m + 2) = v := by rw [gt_put z2, if_pos rfl]
  generalize a2.put (some (m + 2)) v = a3 at g3 e3
  refine wpC_val (runs_assign _) (wpC_nil ?_)
  rw [evT, e3]
  have z3 : 1 < a3.tmps.size := by rw [g3.size, hst.size]; omega
  have g4 : Ag (Cw X.M0 k0 m0) a (a3.put (some 1) v) := (g3.mono (S' := Cw X.M0 k0 m0) fun j hj => by unfold Tm at hj; unfold Cw; omega).put (d := 1) (.inl rfl) z3 v
  have e4 : gt (a3.put (some 1) v) 1 = v := by rw [gt_put z3, if_pos rfl]
  refine h _ w1 (h0.trans g4) ho1 (hst.next g4 hk0 hm1 (by rw [e4]; exact hv1) ho1)

theorem gAppB_wp {ub qb F u k m k0 m0 lo hi : Nat} {c0 : Code} {rk : RK} {cs : List Value} {x : Val} (hF : AppC X.P X.G.u8 F rk) {a0 a : Act} {w : World} {ds : List UInt8} (hst : SA X a w ds) (h0 : Ag (Cw X.M0 k0 m0) a0 a) (hB : BxT X.P ub rk.n) (hV : valOf rk cs = .agg cs.toArray) (hv : gt a k = .pointer (some ⟨qb, 0, none⟩)) (hcl : cs.length = rk.n) (hcc : Cells w qb 0 cs) (hx : rk.leaf X.D w lo hi cs x) (hw : wf rk.m.w x)
    (hl : ds.length + (enc rk.m.w x).length + 16 ≤ lim2) (hk0 : X.fs < k0) (hk : k < m) (h1 : k ≠ 1) (hm : m0 ≤ m) (hm1 : 6 < m0) (hN : m + 3 ≤ X.N)
    (h : ∀ a' w', Ag (Cw X.M0 k0 m0) a0 a' → Only (fun j => X.base ≤ j) w w' → SA X a' w' (ds ++ enc rk.m.w x) → Q .normal a' w') : (gAppB X.G F u ub k m c0).wp X.P Q a w := by
  have hfs := X.fs_le
  refine wp_reg (wpC_val (runs_move _) ?_)
  have z0 : m < a.tmps.size := by rw [hst.size]; omega
  have g1 := (Ag.refl (Tm m) a).put (d := m) (by unfold Tm; omega) z0 (a.eval (.tmp 1))
  have e1 : gt (a.put (some m) (a.eval (.tmp 1))) m = gt a 1 := by rw [gt_put z0, if_pos rfl]; rfl
  have e1k : gt (a.put (some m) (a.eval (.tmp 1))) k = .pointer (some ⟨qb, 0, none⟩) := by rw [gt_put z0, if_neg (by omega)]; exact hv
  generalize a.put (some m) (a.eval (.tmp 1)) = a1 at g1 e1 e1k
  refine wpC_val (runs_loadB hB (cs := cs) e1k hcl hcc) ?_
  rw [← hV]
  have z1 : m + 1 < a1.tmps.size := by rw [g1.size, hst.size]; omega
  have g2 := g1.put (d := m + 1) (by unfold Tm; omega) z1 (valOf rk cs)
  have e2 : gt (a1.put (some (m + 1)) (valOf rk cs)) (m + 1) = valOf rk cs := by rw [gt_put z1, if_pos rfl]
  have e2b : gt (a1.put (some (m + 1)) (valOf rk cs)) m = gt a 1 := by rw [gt_put z1, if_neg (by omega)]; exact e1
  generalize a1.put (some (m + 1)) (valOf rk cs) = a2 at g2 e2 e2b
  refine wpC_call (R := fun v w' => Own X.G.u8 X.base w' v (ds ++ enc rk.m.w x) ∧ Only (fun j => X.base ≤ j) w w') hF.1 (by rw [args2 e2b e2]; exact hF.2 X.D X.base w _ ds lo hi cs x hst.own hx hw hst.db hst.base hl) ?_
  rintro v w1 ⟨hv1, ho1⟩
  have z2 : m + 2 < a2.tmps.size := by rw [g2.size, hst.size]; omega
  have g3 := g2.put (d := m + 2) (by unfold Tm; omega) z2 v
  have e3 : gt (a2.put (some (m + 2)) v) (m + 2) = v := by rw [gt_put z2, if_pos rfl]
  generalize a2.put (some (m + 2)) v = a3 at g3 e3
  refine wpC_val (runs_assign _) (wpC_nil ?_)
  rw [evT, e3]
  have z3 : 1 < a3.tmps.size := by rw [g3.size, hst.size]; omega
  have g4 : Ag (Cw X.M0 k0 m0) a (a3.put (some 1) v) := (g3.mono (S' := Cw X.M0 k0 m0) fun j hj => by unfold Tm at hj; unfold Cw; omega).put (d := 1) (.inl rfl) z3 v
  have e4 : gt (a3.put (some 1) v) 1 = v := by rw [gt_put z3, if_pos rfl]
  refine h _ w1 (h0.trans g4) ho1 (hst.next g4 hk0 hm1 (by rw [e4]; exact hv1) ho1)

theorem gAV_wp (v : AV) {u k m k0 m0 lo hi lo0 : Nat} {c0 : Code} {cs : List Value} {x : Val} (hv : v.ok X.P X.G.u8 X.fx) {a0 a : Act} {w : World} {ds : List UInt8} (hst : SA X a w ds) (h0 : Ag (Cw X.M0 k0 m0) a0 a) (hk : InV v.bx a k lo0 w (valOf (v.rk X.flex) cs)) (hcl : cs.length = (v.rk X.flex).n)
    (hx : (v.rk X.flex).leaf X.D w lo hi cs x) (hw : wf (v.rk X.flex).m.w x) (hl : ds.length + (enc (v.rk X.flex).m.w x).length + 16 ≤ lim2) (hk0 : X.fs < k0) (hkm : k < m) (h1 : k ≠ 1) (hm : m0 ≤ m) (hm1 : 6 < m0) (hN : m + v.t ≤ X.N) (hkk : k0 ≤ k) (hkM : k + v.kn ≤ X.M0) (hMm : X.M0 ≤ m)
    (h : ∀ a' w', Ag (Cw X.M0 k0 m0) a0 a' → Only (fun j => X.base ≤ j) w w' → SA X a' w' (ds ++ enc (v.rk X.flex).m.w x) → Q .normal a' w') : (gAV X.G u k m v c0).wp X.P Q a w := by
  have hfs := X.fs_le
  cases v with
  | one rk F => simp only [AV.t] at hN; exact gApp_wp (rk := rk) hv hst h0 hk hx hw hl hk0 hkm h1 hm hm1 (by omega) h
  | uid F ub =>
    simp only [AV.t] at hN
    obtain ⟨q, hq, _, _, hc⟩ := hk
    exact gAppB_wp (rk := .prim .uuid) hv.1 hst h0 hv.2 rfl hq hcl (by simpa [valOf, AV.rk, Value.cells] using hc) hx hw hl hk0 hkm h1 hm hm1 (by omega) h
  | en rk F u2 =>
    simp only [AV.t] at hN
    simp only [AV.kn] at hkM
    refine wp_seq (gCopy_wp (by rw [hst.size]; omega) (by rw [hst.size]; omega) fun a1 g1 v1 => ?_)
    have st1 : SA X a1 w ds := hst.act g1 (by omega) (by omega) (by omega)
    have h01 : Ag (Cw X.M0 k0 m0) a0 a1 := h0.trans (g1.mono fun j hj => by unfold Cw; omega)
    exact gApp_wp (rk := rk) hv st1 h01 (v1.trans hk) hx hw hl hk0 (by omega) (by omega) (by omega) hm1 (by omega) h
  | two kc kp Fc Fp =>
    simp only [AV.t] at hN
    obtain ⟨hfx, hc, hp⟩ := hv
    have z0 : m < a.tmps.size := by rw [hst.size]; omega
    refine wp_seq (gMove_wp' z0 ?_)
    have g1 := (Ag.refl (Tm m) a).put (d := m) (by unfold Tm; omega) z0 (gt a 6)
    have e1 : gt (a.put (some m) (gt a 6)) m = .bool X.flex := by rw [gt_put z0, if_pos rfl, hst.fl hfx]
    generalize a.put (some m) (gt a 6) = a1 at g1 e1
    have st1 : SA X a1 w ds := hst.act g1 (by unfold Tm; omega) (by unfold Tm; omega) (by unfold Tm; omega)
    have k1 : gt a1 k = valOf ((AV.two kc kp Fc Fp).rk X.flex) cs := (g1.keep k (by unfold Tm; omega)).trans hk
    have h01 : Ag (Cw X.M0 k0 m0) a0 a1 := h0.trans (g1.mono fun j hj => by unfold Tm at hj; unfold Cw; omega)
    refine wp_cond (t := X.flex) e1 ?_
    cases hf : X.flex with
    | true =>
      rw [if_pos rfl]
      simp only [AV.rk, hf, if_true] at k1 hx hw hl h
      exact gApp_wp (rk := kc) hc st1 h01 k1 hx hw hl hk0 (by omega) h1 (by omega) hm1 (by omega) h
    | false =>
      rw [if_neg (by decide)]
      simp only [AV.rk, hf, Bool.false_eq_true, if_false] at k1 hx hw hl h
      exact gApp_wp (rk := kp) hp st1 h01 k1 hx hw hl hk0 (by omega) h1 (by omega) hm1 (by omega) h
end
end Go.Proofs.YtpefipjgcpchaaaGreatDoorR.Kf

namespace Go.Proofs.YtpefipjgcpchaaaGreatDoorR.Kf
set_option linter.unusedVariables false
set_option linter.unusedSimpArgs false
open Go Go.RowKit

section
variable {P : Program} {a : Act} {w : World}

theorem runs_len {TS : Nat} (hT : ∃ e, P.underlying TS = some (.slice e)) {x : Operand} {p : Option Addr} {n c : Nat} (hx : a.eval x = .slice p n c) : Runs P a w (.call ⟨.builtin .len, #[x], #[TS]⟩) (.int .i64 (n : Nat)) w := by
  intro o h
  obtain ⟨e, hT⟩ := hT
  simp [execOp, h, resolve, invoke, builtin, hx, Builtin.len_, run_underlying hT, goInt]

theorem runs_isNil {TS t2 : Nat} (hT : ∃ e, P.underlying TS = some (.slice e)) {x : Operand} {p : Option Addr} {n c : Nat} (hx : a.eval x = .slice p n c) : Runs P a w (.binOp .eql TS x (.const (.slice none 0 0)) t2) (.bool p.isNone) w := by
  intro o h
  obtain ⟨e, hT⟩ := hT
  have e0 : a.eval (.const (.slice none 0 0)) = .slice none 0 0 := rfl
  simp [execOp, h, hx, e0, eqGuard_at_slice, Lib.run_eql_slice_nil w TS e p n c 0 0 hT]

/-- A type of so many cells, more than one. -/
structure Agg (P : Program) (u n : Nat) : Prop where
  desc : ∃ d, P.underlying u = some d ∧ (match d with | .struct _ | .array _ _ => true | _ => false) = true
  sz : ∃ inf, P.info? u = some inf ∧ inf.size = n

theorem runs_loadN {u n b o : Nat} (hu : Agg P u n) {x : Operand} {cs : List Value} (hx : a.eval x = .pointer (some ⟨b, o, none⟩)) (hl : cs.length = n) (hv : Cells w b o cs) :
    Runs P a w (.load u x) (.agg cs.toArray) w := by
  intro q h
  obtain ⟨⟨d, hd, hag⟩, inf, hi, hs⟩ := hu
  have h1 : (isAgg u).run P w = .ok true w := by
    simp only [Go.isAgg, Sem.run_bind, run_underlying hd, Result.andThen]
    cases d <;> first | rfl | (simp at hag)
  have h2 := run_loadCells_list (P := P) w ⟨b, o, none⟩ cs (fun j v hj => by rw [Addr.add_lit]; exact hv j v hj)
  simp [execOp, h, Instr.loadAt, hx, Instr.sureAddr, loadVar, h1, sizeOf, typeInfo, hi, hs, ← hl, h2]

/-- The type u is that of a variable of the kind k. -/
def Ld (P : Program) (u : Nat) (k : RK) : Prop := (One P u ∧ k.n = 1 ∧ (∀ cs : List Value, cs.length = 1 → valOf k cs = cs.headD undef)) ∨ (Agg P u k.n ∧ ∀ cs : List Value, valOf k cs = .agg cs.toArray)

theorem runs_ld {u b o : Nat} {k : RK} (hu : Ld P u k) {x : Operand} {cs : List Value} (hx : a.eval x = .pointer (some ⟨b, o, none⟩)) (hl : cs.length = k.n) (hv : Cells w b o cs) : Runs P a w (.load u x) (valOf k cs) w := by
  rcases hu with ⟨h1, h2, h3⟩ | ⟨h1, h2⟩
  · rw [h3 cs (hl.trans h2)]
    obtain ⟨c, rfl⟩ : ∃ c, cs = [c] := List.length_eq_one_iff.1 (hl.trans h2)
    exact runs_load h1 hx (by simpa using hv 0 c rfl)
  · rw [h2 cs]
    exact runs_loadN h1 hx hl hv
end

theorem RK.leaf_len {D : Nat} {k : RK} {w : World} {lo hi : Nat} {cs : List Value} {x : Val} (h : k.leaf D w lo hi cs x) : cs.length = k.n := by
  cases k with
  | prim p =>
    rcases h with ⟨hp, n, _, _, _, rfl⟩ | ⟨rfl, s, hs, _, rfl⟩
    · cases p <;> first | rfl | exact absurd rfl hp
    · simp [RK.n, RK.m, M.cells, hs]
  | str c nl => rcases h with ⟨_, s, _, rfl⟩ | ⟨_, ⟨_, rfl⟩ | ⟨s, b, _, rfl, _⟩⟩ <;> rfl
  | byt c nl => rcases h with ⟨_, _, rfl⟩ | ⟨_, _, p, rfl⟩ | ⟨s, v, _, rfl, _⟩ <;> rfl
  | tags => obtain ⟨l, _, h⟩ := h; rcases h with ⟨_, rfl⟩ | ⟨r, rfl, _⟩ <;> rfl

/-- A leaf's cells and what they lead to. -/
theorem RK.of_holds {D : Nat} {k : RK} {w : World} {lo hi b off : Nat} {x : Val} (h : Holds D k.m w lo hi b off x) : ∃ cs, Cells w b off cs ∧ k.leaf D w lo hi cs x := by
  cases k <;> exact ⟨h.2.choose, h.2.choose_spec.1, h.2.choose_spec.2⟩

/-! ### a list's length -/

inductive AL
  | one (nl : Bool) (F : Nat)
  | two (nl : Bool) (Fc Fp : Nat)
  | ver (cv : Int) (Nc Np Fc Fp : Nat)

def AL.nl : AL → Bool
  | .one nl _ => nl
  | .two nl _ _ => nl
  | .ver _ _ _ _ _ => true
/-- A list that is null may be written so at the version. -/
def AL.vok (v : Int) : AL → Prop
  | .ver cv _ _ _ _ => cv ≤ v
  | _ => True
/-- It goes with the reading's version from which on null is read as null. -/
def AL.fit (n : Option Int) : AL → Prop
  | .one nl _ => nl = n.isSome
  | .two nl _ _ => nl = n.isSome
  | .ver cv _ _ _ _ => n = some cv
theorem AL.fit_nl {l : AL} {n : Option Int} (h : l.fit n) : l.nl = n.isSome := by
  cases l with
  | ver cv a b c d => simp only [AL.fit] at h; subst h; rfl
  | _ => exact h
def lenT (nl : Bool) : Nat := if nl then 6 else 4
def AL.t : AL → Nat
  | .one nl _ => lenT nl
  | .two nl _ _ => 1 + lenT nl + lenT nl
  | .ver _ _ _ _ _ => 24
def AL.c (flex : Bool) : AL → Bool
  | .one _ _ => false
  | .two _ _ _ => flex
  | .ver _ _ _ _ _ => flex
def AL.ok (P : Program) (U : Nat) (fx : Bool) : AL → Prop
  | .one nl F => ALenC P U F false nl
  | .two nl Fc Fp => fx = true ∧ ALenC P U Fc true nl ∧ ALenC P U Fp false nl
  | .ver _ Nc Np Fc Fp => (fx = true ∧ ALenC P U Nc true true ∧ ALenC P U Np false true) ∧ fx = true ∧ ALenC P U Fc true false ∧ ALenC P U Fp false false

def gALen1 (G : Hn) (nl : Bool) (F TS k m : Nat) (c : Code) : Code :=
  if nl then reg [⟨some m, .move (.tmp 1), none⟩, ⟨some (m + 1), .move (.tmp k), none⟩, ⟨some (m + 2), .call ⟨.builtin .len, #[.tmp (m + 1)], #[TS]⟩, none⟩, ⟨some (m + 3), .move (.tmp k), none⟩, ⟨some (m + 4), .binOp .eql TS (.tmp (m + 3)) (.const (.slice none 0 0)) TS, none⟩,
      ⟨some (m + 5), .call ⟨.value (.func F), #[.tmp m, .tmp (m + 2), .tmp (m + 4)], #[G.sl, G.int, G.bool]⟩, none⟩, ⟨some 1, .assign (.tmp (m + 5)), none⟩] c
  else reg [⟨some m, .move (.tmp 1), none⟩, ⟨some (m + 1), .move (.tmp k), none⟩, ⟨some (m + 2), .call ⟨.builtin .len, #[.tmp (m + 1)], #[TS]⟩, none⟩, ⟨some (m + 3), .call ⟨.value (.func F), #[.tmp m, .tmp (m + 2)], #[G.sl, G.int]⟩, none⟩, ⟨some 1, .assign (.tmp (m + 3)), none⟩] c

def gALen2 (G : Hn) (TS k m : Nat) (nl : Bool) (Fc Fp : Nat) (c : Code) : Code :=
  .seq (gMove 6 m (pc c [0])) (.cond (.tmp m) (gALen1 G nl Fc TS k (m + 1) (pc c [1, 0])) (gALen1 G nl Fp TS k (m + 1 + lenT nl) (pc c [1, 1])))
def gALen (G : Hn) (TS k m : Nat) : AL → Code → Code
  | .one nl F, c => gALen1 G nl F TS k m c
  | .two nl Fc Fp, c => gALen2 G TS k m nl Fc Fp c
  | .ver cv Nc Np Fc Fp, c => .seq (reg [⟨some m, .move (.tmp 5), none⟩, ⟨some (m + 1), .binOp .geq G.i16 (.tmp m) (.const (.int .i16 cv)) G.i16, none⟩] (pc c [0])) (.cond (.tmp (m + 1)) (gALen2 G TS k (m + 2) true Nc Np (pc c [1, 0])) (gALen2 G TS k (m + 15) false Fc Fp (pc c [1, 1])))

section
variable {X : AX} {Q : Exit → Act → World → Prop}

theorem gALen1_wp {nl cc : Bool} {F TS k m k0 m0 : Nat} {c0 : Code} {p : Option Addr} {n c : Nat} (hT : ∃ e, X.P.underlying TS = some (.slice e)) (hF : ALenC X.P X.G.u8 F cc nl) {a0 a : Act} {w : World} {ds : List UInt8} (hst : SA X a w ds) (h0 : Ag (Cw X.M0 k0 m0) a0 a)
    (hv : gt a k = .slice p n c) (hn : n ≤ 2147483646) (hl : ds.length + 10 ≤ lim2) (hk0 : X.fs < k0) (hk : k < m) (h1 : k ≠ 1) (hm : m0 ≤ m) (hm1 : 6 < m0) (hN : m + lenT nl ≤ X.N)
    (h : ∀ a' w', Ag (Cw X.M0 k0 m0) a0 a' → Only (fun j => X.base ≤ j) w w' → SA X a' w' (ds ++ cntEnc cc 4 (if nl && p.isNone then none else some n)) → Q .normal a' w') : (gALen1 X.G nl F TS k m c0).wp X.P Q a w := by
  have hfs := X.fs_le
  have hsz := hst.size
  cases hnl : nl with
  | false =>
    subst hnl
    simp only [lenT, Bool.false_eq_true, if_false] at hN
    show (reg _ _).wp _ _ _ _
    refine wp_reg (wpC_val (runs_move _) ?_)
    have z0 : m < a.tmps.size := by omega
    have g1 := (Ag.refl (Tm m) a).put (d := m) (by unfold Tm; omega) z0 (a.eval (.tmp 1))
    have e1 : gt (a.put (some m) (a.eval (.tmp 1))) m = gt a 1 := by rw [gt_put z0, if_pos rfl]; rfl
    generalize a.put (some m) (a.eval (.tmp 1)) = a1 at g1 e1
    refine wpC_val (runs_move _) ?_
    rw [evT, show gt a1 k = .slice p n c from (g1.keep k (by unfold Tm; omega)).trans hv]
    have z1 : m + 1 < a1.tmps.size := by rw [g1.size]; omega
    have g2 := g1.put (d := m + 1) (by unfold Tm; omega) z1 (.slice p n c)
    have e2 : gt (a1.put (some (m + 1)) (.slice p n c)) (m + 1) = .slice p n c := by rw [gt_put z1, if_pos rfl]
    have e2b : gt (a1.put (some (m + 1)) (.slice p n c)) m = gt a 1 := by rw [gt_put z1, if_neg (by omega)]; exact e1
    generalize a1.put (some (m + 1)) (.slice p n c) = a2 at g2 e2 e2b
    refine wpC_val (runs_len hT e2) ?_
    have z2 : m + 2 < a2.tmps.size := by rw [g2.size]; omega
    have g3 := g2.put (d := m + 2) (by unfold Tm; omega) z2 (.int .i64 (n : Nat))
    have e3 : gt (a2.put (some (m + 2)) (.int .i64 (n : Nat))) (m + 2) = .int .i64 (n : Nat) := by rw [gt_put z2, if_pos rfl]
    have e3b : gt (a2.put (some (m + 2)) (.int .i64 (n : Nat))) m = gt a 1 := by rw [gt_put z2, if_neg (by omega)]; exact e2b
    generalize a2.put (some (m + 2)) (.int .i64 (n : Nat)) = a3 at g3 e3 e3b
    have hc := hF.2 X.base w _ ds n false hst.own hn (by simp) hst.base hl
    simp only [Bool.false_eq_true, if_false] at hc
    refine wpC_call (R := fun v w' => Own X.G.u8 X.base w' v (ds ++ cntEnc cc 4 (some n)) ∧ Only (fun j => X.base ≤ j) w w') hF.1 (by rw [args2 e3b e3]; exact hc) ?_
    rintro v w1 ⟨hv1, ho1⟩
    have z3 : m + 3 < a3.tmps.size := by rw [g3.size]; omega
    have g4 := g3.put (d := m + 3) (by unfold Tm; omega) z3 v
    have e4 : gt (a3.put (some (m + 3)) v) (m + 3) = v := by rw [gt_put z3, if_pos rfl]
    generalize a3.put (some (m + 3)) v = a4 at g4 e4
    refine wpC_val (runs_assign _) (wpC_nil ?_)
    rw [evT, e4]
    have z4 : 1 < a4.tmps.size := by rw [g4.size]; omega
    have g5 : Ag (Cw X.M0 k0 m0) a (a4.put (some 1) v) := (g4.mono (S' := Cw X.M0 k0 m0) fun j hj => by unfold Tm at hj; unfold Cw; omega).put (d := 1) (.inl rfl) z4 v
    exact h _ w1 (h0.trans g5) ho1 (hst.next g5 hk0 hm1 (by rw [gt_put z4, if_pos rfl]; exact hv1) ho1)
  | true =>
    subst hnl
    simp only [lenT, if_true] at hN
    show (reg _ _).wp _ _ _ _
    refine wp_reg (wpC_val (runs_move _) ?_)
    have z0 : m < a.tmps.size := by omega
    have g1 := (Ag.refl (Tm m) a).put (d := m) (by unfold Tm; omega) z0 (a.eval (.tmp 1))
    have e1 : gt (a.put (some m) (a.eval (.tmp 1))) m = gt a 1 := by rw [gt_put z0, if_pos rfl]; rfl
    generalize a.put (some m) (a.eval (.tmp 1)) = a1 at g1 e1
    refine wpC_val (runs_move _) ?_
    rw [evT, show gt a1 k = .slice p n c from (g1.keep k (by unfold Tm; omega)).trans hv]
    have z1 : m + 1 < a1.tmps.size := by rw [g1.size]; omega
    have g2 := g1.put (d := m + 1) (by unfold Tm; omega) z1 (.slice p n c)
    have e2 : gt (a1.put (some (m + 1)) (.slice p n c)) (m + 1) = .slice p n c := by rw [gt_put z1, if_pos rfl]
    have e2b : gt (a1.put (some (m + 1)) (.slice p n c)) m = gt a 1 := by rw [gt_put z1, if_neg (by omega)]; exact e1
    generalize a1.put (some (m + 1)) (.slice p n c) = a2 at g2 e2 e2b
    refine wpC_val (runs_len hT e2) ?_
    have z2 : m + 2 < a2.tmps.size := by rw [g2.size]; omega
    have g3 := g2.put (d := m + 2) (by unfold Tm; omega) z2 (.int .i64 (n : Nat))
    have e3 : gt (a2.put (some (m + 2)) (.int .i64 (n : Nat))) (m + 2) = .int .i64 (n : Nat) := by rw [gt_put z2, if_pos rfl]
    have e3b : gt (a2.put (some (m + 2)) (.int .i64 (n : Nat))) m = gt a 1 := by rw [gt_put z2, if_neg (by omega)]; exact e2b
    generalize a2.put (some (m + 2)) (.int .i64 (n : Nat)) = a3 at g3 e3 e3b
    refine wpC_val (runs_move _) ?_
    rw [evT, show gt a3 k = .slice p n c from (g3.keep k (by unfold Tm; omega)).trans hv]
    have z3 : m + 3 < a3.tmps.size := by rw [g3.size]; omega
    have g4 := g3.put (d := m + 3) (by unfold Tm; omega) z3 (.slice p n c)
    have e4 : gt (a3.put (some (m + 3)) (.slice p n c)) (m + 3) = .slice p n c := by rw [gt_put z3, if_pos rfl]
    have e4a : gt (a3.put (some (m + 3)) (.slice p n c)) (m + 2) = .int .i64 (n : Nat) := by rw [gt_put z3, if_neg (by omega)]; exact e3
    have e4b : gt (a3.put (some (m + 3)) (.slice p n c)) m = gt a 1 := by rw [gt_put z3, if_neg (by omega)]; exact e3b
    generalize a3.put (some (m + 3)) (.slice p n c) = a4 at g4 e4 e4a e4b
    refine wpC_val (runs_isNil hT e4) ?_
    have z4 : m + 4 < a4.tmps.size := by rw [g4.size]; omega
    have g5 := g4.put (d := m + 4) (by unfold Tm; omega) z4 (.bool p.isNone)
    have e5 : gt (a4.put (some (m + 4)) (.bool p.isNone)) (m + 4) = .bool p.isNone := by rw [gt_put z4, if_pos rfl]
    have e5a : gt (a4.put (some (m + 4)) (.bool p.isNone)) (m + 2) = .int .i64 (n : Nat) := by rw [gt_put z4, if_neg (by omega)]; exact e4a
    have e5b : gt (a4.put (some (m + 4)) (.bool p.isNone)) m = gt a 1 := by rw [gt_put z4, if_neg (by omega)]; exact e4b
    generalize a4.put (some (m + 4)) (.bool p.isNone) = a5 at g5 e5 e5a e5b
    have hc := hF.2 X.base w _ ds n p.isNone hst.own hn (fun _ => rfl) hst.base hl
    rw [if_pos rfl] at hc
    refine wpC_call (R := fun v w' => Own X.G.u8 X.base w' v (ds ++ cntEnc cc 4 (if p.isNone then none else some n)) ∧ Only (fun j => X.base ≤ j) w w') hF.1 (by rw [args3 e5b e5a e5]; exact hc) ?_
    rintro v w1 ⟨hv1, ho1⟩
    have z5 : m + 5 < a5.tmps.size := by rw [g5.size]; omega
    have g6 := g5.put (d := m + 5) (by unfold Tm; omega) z5 v
    have e6 : gt (a5.put (some (m + 5)) v) (m + 5) = v := by rw [gt_put z5, if_pos rfl]
    generalize a5.put (some (m + 5)) v = a6 at g6 e6
    refine wpC_val (runs_assign _) (wpC_nil ?_)
    rw [evT, e6]
    have z6 : 1 < a6.tmps.size := by rw [g6.size]; omega
    have g7 : Ag (Cw X.M0 k0 m0) a (a6.put (some 1) v) := (g6.mono (S' := Cw X.M0 k0 m0) fun j hj => by unfold Tm at hj; unfold Cw; omega).put (d := 1) (.inl rfl) z6 v
    refine h _ w1 (h0.trans g7) ho1 (hst.next g7 hk0 hm1 (by rw [gt_put z6, if_pos rfl]; simpa using hv1) ho1)

theorem gALen2_wp {nl : Bool} {Fc Fp TS k m k0 m0 : Nat} {c0 : Code} {p : Option Addr} {n c : Nat} (hT : ∃ e, X.P.underlying TS = some (.slice e)) (hF : X.fx = true ∧ ALenC X.P X.G.u8 Fc true nl ∧ ALenC X.P X.G.u8 Fp false nl) {a0 a : Act} {w : World} {ds : List UInt8} (hst : SA X a w ds) (h0 : Ag (Cw X.M0 k0 m0) a0 a)
    (hv : gt a k = .slice p n c) (hn : n ≤ 2147483646) (hl : ds.length + 10 ≤ lim2) (hk0 : X.fs < k0) (hk : k < m) (h1 : k ≠ 1) (hm : m0 ≤ m) (hm1 : 6 < m0) (hN : m + (1 + lenT nl + lenT nl) ≤ X.N)
    (h : ∀ a' w', Ag (Cw X.M0 k0 m0) a0 a' → Only (fun j => X.base ≤ j) w w' → SA X a' w' (ds ++ cntEnc X.flex 4 (if nl && p.isNone then none else some n)) → Q .normal a' w') : (gALen2 X.G TS k m nl Fc Fp c0).wp X.P Q a w := by
  have hfs := X.fs_le
  obtain ⟨hfx, hc, hp⟩ := hF
  have z0 : m < a.tmps.size := by rw [hst.size]; unfold lenT at hN; split at hN <;> omega
  refine wp_seq (gMove_wp' z0 ?_)
  have g1 := (Ag.refl (Tm m) a).put (d := m) (by unfold Tm; omega) z0 (gt a 6)
  have e1 : gt (a.put (some m) (gt a 6)) m = .bool X.flex := by rw [gt_put z0, if_pos rfl, hst.fl hfx]
  generalize a.put (some m) (gt a 6) = a1 at g1 e1
  have st1 : SA X a1 w ds := hst.act g1 (by unfold Tm; omega) (by unfold Tm; omega) (by unfold Tm; omega)
  have k1 : gt a1 k = .slice p n c := (g1.keep k (by unfold Tm; omega)).trans hv
  have h01 : Ag (Cw X.M0 k0 m0) a0 a1 := h0.trans (g1.mono fun j hj => by unfold Tm at hj; unfold Cw; omega)
  refine wp_cond (t := X.flex) e1 ?_
  cases hf : X.flex with
  | true =>
    rw [if_pos rfl]
    simp only [hf] at h
    exact gALen1_wp hT hc st1 h01 k1 hn hl hk0 (by omega) h1 (by omega) hm1 (by omega) h
  | false =>
    rw [if_neg (by decide)]
    simp only [hf] at h
    exact gALen1_wp hT hp st1 h01 k1 hn hl hk0 (by omega) h1 (by omega) hm1 (by omega) h

theorem gALen_wp (l : AL) {TS k m k0 m0 : Nat} {c0 : Code} {p : Option Addr} {n c : Nat} (hT : ∃ e, X.P.underlying TS = some (.slice e)) (hF : l.ok X.P X.G.u8 X.fx) (hnv : p.isNone = true → l.vok X.ver) {a0 a : Act} {w : World} {ds : List UInt8} (hst : SA X a w ds) (h0 : Ag (Cw X.M0 k0 m0) a0 a)
    (hv : gt a k = .slice p n c) (hn : n ≤ 2147483646) (hl : ds.length + 10 ≤ lim2) (hk0 : X.fs < k0) (hk : k < m) (h1 : k ≠ 1) (hm : m0 ≤ m) (hm1 : 6 < m0) (hN : m + l.t ≤ X.N)
    (h : ∀ a' w', Ag (Cw X.M0 k0 m0) a0 a' → Only (fun j => X.base ≤ j) w w' → SA X a' w' (ds ++ cntEnc (l.c X.flex) 4 (if l.nl && p.isNone then none else some n)) → Q .normal a' w') : (gALen X.G TS k m l c0).wp X.P Q a w := by
  have hfs := X.fs_le
  cases l with
  | one nl F => simp only [AL.t] at hN; exact gALen1_wp hT hF hst h0 hv hn hl hk0 hk h1 hm hm1 hN h
  | two nl Fc Fp => simp only [AL.t] at hN; exact gALen2_wp hT hF hst h0 hv hn hl hk0 hk h1 hm hm1 hN h
  | ver cv Nc Np Fc Fp =>
    simp only [AL.t] at hN
    have z0 : m < a.tmps.size := by rw [hst.size]; omega
    refine wp_seq (wp_reg (wpC_val (runs_move _) ?_))
    rw [evT, hst.ver]
    have g1 := (Ag.refl (Tm m) a).put (d := m) (by unfold Tm; omega) z0 (.int .i16 X.ver)
    have e1 : gt (a.put (some m) (.int .i16 X.ver)) m = .int .i16 X.ver := by rw [gt_put z0, if_pos rfl]
    generalize a.put (some m) (.int .i16 X.ver) = a1 at g1 e1
    refine wpC_val (runs_cmp .geq _ (.inr (.inl ⟨rfl, rfl⟩)) (k := .i16) (p := X.ver) (q := cv) e1 rfl) (wpC_nil ?_)
    have z1 : m + 1 < a1.tmps.size := by rw [g1.size, hst.size]; omega
    have g2 := g1.put (d := m + 1) (by unfold Tm; omega) z1 (.bool (decide (X.ver ≥ cv)))
    have e2 : gt (a1.put (some (m + 1)) (.bool (decide (X.ver ≥ cv)))) (m + 1) = .bool (decide (X.ver ≥ cv)) := by rw [gt_put z1, if_pos rfl]
    generalize a1.put (some (m + 1)) (.bool (decide (X.ver ≥ cv))) = a2 at g2 e2
    have st2 : SA X a2 w ds := hst.act g2 (by unfold Tm; omega) (by unfold Tm; omega) (by unfold Tm; omega)
    have k2 : gt a2 k = .slice p n c := (g2.keep k (by unfold Tm; omega)).trans hv
    have h02 : Ag (Cw X.M0 k0 m0) a0 a2 := h0.trans (g2.mono fun j hj => by unfold Tm at hj; unfold Cw; omega)
    refine wp_cond (t := decide (X.ver ≥ cv)) e2 ?_
    by_cases hcv : X.ver ≥ cv
    · rw [if_pos (by simpa using hcv)]
      exact gALen2_wp hT hF.1 st2 h02 k2 hn hl hk0 (by omega) h1 (by omega) hm1 (by simp only [lenT, if_true]; omega) h
    · rw [if_neg (by simpa using hcv)]
      have hp : p.isNone = false := by
        cases hpn : p.isNone with
        | true => exact absurd (hnv hpn) hcv
        | false => rfl
      simp only [AL.nl, AL.c, hp, Bool.and_false, Bool.false_eq_true, if_false] at h
      exact gALen2_wp hT hF.2 st2 h02 k2 hn hl hk0 (by omega) h1 (by omega) hm1 (by simp only [lenT, Bool.false_eq_true, if_false]; omega) (by simpa using h)
end
end Go.Proofs.YtpefipjgcpchaaaGreatDoorR.Kf

namespace Go.Proofs.YtpefipjgcpchaaaGreatDoorR.Kf
set_option linter.unusedVariables false
set_option linter.unusedSimpArgs false
open Go Go.RowKit

theorem Only.grown {base : Nat} {w w' : World} {o : Option Nat} (h : w.grownBy w' o) (ho : ∀ g, o = some g → base ≤ g) : Only (fun j => base ≤ j) w w' := by
  refine ⟨h.os, h.tape, h.output, h.size, fun k hk hb => ?_⟩
  exact h.block k hk fun e => hb (ho k e.symm)


/-- New octets, in a block just made, are written behind what is there. -/
theorem wp_app_newx {P : Program} {ops : Array Oper} {rest : List Oper} {o : Oper} {a : Act} {Q : Exit → Act → World → Prop} {w : World} (hgd : o.guard = none) (s x : Operand) (t : TypeId)
    (ho : o.op = .call { callee := .builtin .append, args := #[s, x], argTypes := #[t, t] }) {base U : Nat} {i : TypeInfo} (ht : P.underlying t = some (.slice U)) (hi : P.info? U = some i) (hz : i.zero = some (.int .u8 0))
    (hsize : i.size = 1) (hby : i.bytes = 1) {v : Value} {ds bs : List UInt8} {cs : Array Value} {m c : Nat} (hs : a.eval s = v) (hown : Own U base w v ds) (hx : a.eval x = .slice (some ⟨w.heap.size, 0, none⟩) m c) (hm : m = bs.length)
    (hcs : cs = (bs.map u8v).toArray) (hb : base ≤ w.heap.size) (hl : ds.length + bs.length ≤ lim2)
    (h : ∀ v' w', Own U base w' v' (ds ++ bs) → Only (fun j => v.ownBlock = some j) w w' → wpList P ops Q rest (a.put o.dst v') w') : wpList P ops Q (o :: rest) a (w.alloc (.cells cs U)) := by
  subst hm hcs
  unfold lim2 at hl
  refine wpList_append_own _ hgd s x t ho base U i (.int .u8 0) 1 1 ht hi hz hsize hby rfl (by decide) v ds.length (ds.map u8v) hs (World.ownsRow.alloc hown _) ⟨w.heap.size, 0, none⟩ bs.length c (bs.map u8v) hx (by simp) ?_ ?_ (by unfold maxLen; omega) (by omega) (by simp; omega) ?_
  · intro j u hj
    have : (⟨w.heap.size, 0, none⟩ : Addr).add j = ⟨w.heap.size, j, none⟩ := by simp [Addr.add]; try omega
    rw [this, World.cell?_alloc_mark]
    simpa using hj
  · intro u hu
    simp only [List.mem_map] at hu
    obtain ⟨b, _, rfl⟩ := hu
    rfl
  · intro v' w' hown' hgrow _
    refine h v' w' ?_ ?_
    · unfold Own
      simpa using hown'
    · have h1 : Only (fun j => v.ownBlock = some j) w (w.alloc (.cells (bs.map u8v).toArray U)) := (Only.refl _ w).of_below ((Below.refl _ _).alloc (Nat.le_refl _) _)
      exact h1.trans ⟨hgrow.os, hgrow.tape, hgrow.output, hgrow.size, fun k hk hb => hgrow.block k hk fun e => hb e.symm⟩
theorem wp_app_new {P : Program} {ops : Array Oper} {rest : List Oper} {o : Oper} {a : Act} {Q : Exit → Act → World → Prop} {w : World} (hgd : o.guard = none) (s x : Operand) (t : TypeId)
    (ho : o.op = .call { callee := .builtin .append, args := #[s, x], argTypes := #[t, t] }) {base U : Nat} {i : TypeInfo} (ht : P.underlying t = some (.slice U)) (hi : P.info? U = some i) (hz : i.zero = some (.int .u8 0))
    (hsize : i.size = 1) (hby : i.bytes = 1) {v : Value} {ds bs : List UInt8} {cs : Array Value} {m c : Nat} (hs : a.eval s = v) (hown : Own U base w v ds) (hx : a.eval x = .slice (some ⟨w.heap.size, 0, none⟩) m c) (hm : m = bs.length)
    (hcs : cs = (bs.map u8v).toArray) (hb : base ≤ w.heap.size) (hl : ds.length + bs.length ≤ lim2)
    (h : ∀ v' w', Own U base w' v' (ds ++ bs) → Only (fun j => base ≤ j) w w' → wpList P ops Q rest (a.put o.dst v') w') : wpList P ops Q (o :: rest) a (w.alloc (.cells cs U)) := 
  wp_app_newx hgd s x t ho ht hi hz hsize hby hs hown hx hm hcs hb hl fun v' w' h1 h2 => h v' w' h1 (h2.mono fun j _ hj => (World.ownsRow.lt hown j hj).1)

/-- The type sl is that of slices of octets. -/
def OctT (P : Program) (sl U : Nat) : Prop := P.underlying sl = some (.slice U) ∧ ∃ i, P.info? U = some i ∧ i.zero = some (.int .u8 0) ∧ i.size = 1 ∧ i.bytes = 1
def gByte (sl : Nat) (n : Int) (m : Nat) (c : Code) : Code :=
  reg [⟨some m, .move (.tmp 1), none⟩, ⟨some (m + 1), .buildSlice sl 1 #[(0, .const (.int .u8 n))], none⟩, ⟨some (m + 2), .call ⟨.builtin .append, #[.tmp m, .tmp (m + 1)], #[sl, sl]⟩, none⟩, ⟨some 1, .assign (.tmp (m + 2)), none⟩] c
def gIsNil (PT k m : Nat) (c : Code) : Code := reg [⟨some m, .move (.tmp k), none⟩, ⟨some (m + 1), .binOp .eql PT (.tmp m) (.const (.pointer none)) PT, none⟩] c

section
variable {P : Program} {a : Act} {w : World}
theorem runs_build1 {sl U : Nat} (hT : OctT P sl U) (n : Int) : Runs P a w (.buildSlice sl 1 #[(0, .const (.int .u8 n))]) (.slice (some ⟨w.heap.size, 0, none⟩) 1 1) (w.alloc (.cells #[.int .u8 n] U)) := by
  intro o h
  obtain ⟨h1, i, h2, h3, h4, h5⟩ := hT
  have e0 : a.eval (.const (.int .u8 n)) = .int .u8 n := rfl
  simp [execOp, h, Instr.buildSlice, run_underlying h1, sizeOf, typeInfo, h2, h3, h4, zeroValue, Instr.fill, newRow, e0, Value.cells, Array.range_succ, Array.range_zero']
theorem runs_isNilP {PT t2 : Nat} (hT : P.underlying PT = some (.pointer (P.pointee PT))) {x : Operand} {p : Option Addr} (hx : a.eval x = .pointer p) : Runs P a w (.binOp .eql PT x (.const (.pointer none)) t2) (.bool p.isNone) w := by
  intro o h
  have e0 : a.eval (.const (.pointer none)) = .pointer none := rfl
  simp [execOp, h, hx, e0, eqGuard_at_pointer, run_eql_pointer_nil w PT p hT]
end

section
variable {X : AX} {Q : Exit → Act → World → Prop}
theorem gByte_wp {sl m k0 m0 : Nat} {n : Int} {b : UInt8} {c0 : Code} (hT : OctT X.P sl X.G.u8) (hb : (b.toNat : Int) = n) {a0 a : Act} {w : World} {ds : List UInt8} (hst : SA X a w ds) (h0 : Ag (Cw X.M0 k0 m0) a0 a) (hl : ds.length + 1 ≤ lim2) (hk0 : X.fs < k0) (hm : m0 ≤ m) (hm1 : 6 < m0) (hN : m + 3 ≤ X.N)
    (h : ∀ a' w', Ag (Cw X.M0 k0 m0) a0 a' → Only (fun j => X.base ≤ j) w w' → SA X a' w' (ds ++ [b]) → Q .normal a' w') : (gByte sl n m c0).wp X.P Q a w := by
  have hfs := X.fs_le
  have hsz := hst.size
  refine wp_reg (wpC_val (runs_move _) ?_)
  have z0 : m < a.tmps.size := by omega
  have g1 := (Ag.refl (Tm m) a).put (d := m) (by unfold Tm; omega) z0 (a.eval (.tmp 1))
  have e1 : gt (a.put (some m) (a.eval (.tmp 1))) m = gt a 1 := by rw [gt_put z0, if_pos rfl]; rfl
  generalize a.put (some m) (a.eval (.tmp 1)) = a1 at g1 e1
  refine wpC_val (runs_build1 hT n) ?_
  have z1 : m + 1 < a1.tmps.size := by rw [g1.size]; omega
  have g2 := g1.put (d := m + 1) (by unfold Tm; omega) z1 (.slice (some ⟨w.heap.size, 0, none⟩) 1 1)
  have e2 : gt (a1.put (some (m + 1)) (.slice (some ⟨w.heap.size, 0, none⟩) 1 1)) (m + 1) = .slice (some ⟨w.heap.size, 0, none⟩) 1 1 := by rw [gt_put z1, if_pos rfl]
  have e2b : gt (a1.put (some (m + 1)) (.slice (some ⟨w.heap.size, 0, none⟩) 1 1)) m = gt a 1 := by rw [gt_put z1, if_neg (by omega)]; exact e1
  generalize a1.put (some (m + 1)) (.slice (some ⟨w.heap.size, 0, none⟩) 1 1) = a2 at g2 e2 e2b
  obtain ⟨t1, i, t2, t3, t4, t5⟩ := hT
  intro all pre os hall
  obtain ⟨o, os', e⟩ := mkOps_cons ⟨some (m + 2), .call ⟨.builtin .append, #[.tmp m, .tmp (m + 1)], #[sl, sl]⟩, none⟩ [⟨some 1, .assign (.tmp (m + 2)), none⟩] os
  rw [e] at hall ⊢
  refine wp_app_new (base := X.base) (bs := [b]) rfl (.tmp m) (.tmp (m + 1)) sl rfl t1 t2 t3 t4 t5 (v := gt a 1) e2b hst.own e2 rfl (by simp [u8v, hb]) hst.base (by simpa using hl) fun v' w' hv ho => ?_
  have z2 : m + 2 < a2.tmps.size := by rw [g2.size]; omega
  have g3 := g2.put (d := m + 2) (by unfold Tm; omega) z2 v'
  have e3 : gt (a2.put (some (m + 2)) v') (m + 2) = v' := by rw [gt_put z2, if_pos rfl]
  show wpList X.P all Q _ (a2.put (some (m + 2)) v') w'
  generalize a2.put (some (m + 2)) v' = a3 at g3 e3
  refine (wpC_val (runs_assign _) (wpC_nil ?_) : wpC X.P Q [⟨some 1, .assign (.tmp (m + 2)), none⟩] a3 w') all (pre ++ [mkOp ⟨some (m + 2), .call ⟨.builtin .append, #[.tmp m, .tmp (m + 1)], #[sl, sl]⟩, none⟩ o]) os' (by simpa using hall)
  rw [evT, e3]
  have z3 : 1 < a3.tmps.size := by rw [g3.size]; omega
  have g4 : Ag (Cw X.M0 k0 m0) a (a3.put (some 1) v') := (g3.mono (S' := Cw X.M0 k0 m0) fun j hj => by unfold Tm at hj; unfold Cw; omega).put (d := 1) (.inl rfl) z3 v'
  have e4 : gt (a3.put (some 1) v') 1 = v' := by rw [gt_put z3, if_pos rfl]
  exact h _ w' (h0.trans g4) ho (hst.next g4 hk0 hm1 (by rw [e4]; exact hv) ho)
theorem gIsNil_wp {P : Program} {Q : Exit → Act → World → Prop} {PT k m : Nat} {c0 : Code} (hT : P.underlying PT = some (.pointer (P.pointee PT))) {a : Act} {w : World} {p : Option Addr} (hk : gt a k = .pointer p) (hkm : k < m) (hN : m + 2 ≤ a.tmps.size)
    (h : ∀ a', Ag (fun j => m ≤ j ∧ j < m + 2) a a' → gt a' (m + 1) = .bool p.isNone → Q .normal a' w) : (gIsNil PT k m c0).wp P Q a w := by
  refine wp_reg (wpC_val (runs_move _) ?_)
  have z0 : m < a.tmps.size := by omega
  rw [evT, hk]
  have g1 := (Ag.refl (fun j => m ≤ j ∧ j < m + 2) a).put (d := m) (by omega) z0 (.pointer p)
  have e1 : gt (a.put (some m) (.pointer p)) m = .pointer p := by rw [gt_put z0, if_pos rfl]
  generalize a.put (some m) (.pointer p) = a1 at g1 e1
  refine wpC_val (runs_isNilP hT e1) (wpC_nil ?_)
  have z1 : m + 1 < a1.tmps.size := by rw [g1.size]; omega
  exact h _ (g1.put (d := m + 1) (by omega) z1 _) (by rw [gt_put z1, if_pos rfl])
end
end Go.Proofs.YtpefipjgcpchaaaGreatDoorR.Kf

namespace Go.Proofs.YtpefipjgcpchaaaGreatDoorR.Kf
set_option linter.unusedVariables false
set_option linter.unusedSimpArgs false
open Go Go.RowKit

def gRange (G : Hn) (TS k m bt : Nat) (body : Code → Code) (c : Code) : Code :=
  .seq (reg [⟨some m, .move (.tmp k), none⟩, ⟨some (m + 1), .call ⟨.builtin .len, #[.tmp m], #[TS]⟩, none⟩, ⟨some (m + 2), .move (.const (.int .i64 0)), none⟩] (pc c [0]))
    (.block (Code.id0 (pc c [1])) (.loop (.seq (reg [⟨some (m + 3), .binOp .lss G.int (.tmp (m + 2)) (.tmp (m + 1)) G.int, none⟩] (pc c [1, 0, 0, 0]))
      (.seq (.cond (.tmp (m + 3)) .skip (.exit (Code.id0 (pc c [1]))))
        (.seq (.block (Code.id0 (pc c [1, 0, 0, 1, 1, 0])) (body (pc c [1, 0, 0, 1, 1, 0, 0])))
          (reg [⟨some (m + 4 + bt), .binOp .add G.int (.tmp (m + 2)) (.const (.int .i64 1)) G.int, none⟩, ⟨some (m + 2), .move (.tmp (m + 4 + bt)), none⟩] (pc c [1, 0, 0, 1, 1, 1])))))))

section
variable {X : AX} {Q : Exit → Act → World → Prop}

theorem flat_take_succ (em : M) (vs : List Val) (i : Nat) (v : Val) (h : vs[i]? = some v) : ((vs.take (i + 1)).map (enc em.w)).flatten = ((vs.take i).map (enc em.w)).flatten ++ enc em.w v := by
  obtain ⟨hi, rfl⟩ := List.getElem?_eq_some_iff.1 h
  rw [List.take_succ_eq_append_getElem hi]
  simp only [List.map_append, List.flatten_append, List.map_cons, List.map_nil, List.flatten_cons, List.flatten_nil, List.append_nil]

theorem flat_take_le (em : M) (vs : List Val) (i : Nat) : ((vs.take i).map (enc em.w)).flatten.length ≤ ((vs.map (enc em.w)).flatten).length := by
  have : (vs.map (enc em.w)).flatten = ((vs.take i).map (enc em.w)).flatten ++ ((vs.drop i).map (enc em.w)).flatten := by
    rw [← List.flatten_append, ← List.map_append, List.take_append_drop]
  rw [this, List.length_append]; omega

theorem range_wp {TS k m bt c : Nat} {p : Option Addr} {em : M} {vs : List Val} {body : Code → Code} {c0 : Code} (hT : ∃ e, X.P.underlying TS = some (.slice e)) {a0 : Act} {w0 : World} {ds : List UInt8} (hst0 : SA X a0 w0 ds) (hv : gt a0 k = .slice p vs.length c)
    (hn : vs.length ≤ 2147483647) (h6 : X.fs < k) (hk : k < X.M0) (hm : X.M0 ≤ m) (hN : m + 5 + bt ≤ X.N) (hl : ds.length + ((vs.map (enc em.w)).flatten).length + 16 ≤ lim2)
    (hbody : ∀ c a w ds' i v, vs[i]? = some v → SA X a w ds' → gt a (m + 2) = .int .i64 (i : Nat) → Ag (Cw X.M0 (k + 1) m) a0 a → Only (fun j => X.base ≤ j) w0 w → ds'.length + (enc em.w v).length + 16 ≤ lim2 → ∀ Q,
      (∀ a' w', Ag (Cw X.M0 (k + 1) (m + 4)) a a' → Only (fun j => X.base ≤ j) w w' → SA X a' w' (ds' ++ enc em.w v) → Q .normal a' w') → (body c).wp X.P Q a w)
    (h : ∀ a' w', Ag (Cw X.M0 (k + 1) m) a0 a' → Only (fun j => X.base ≤ j) w0 w' → SA X a' w' (ds ++ ((vs.map (enc em.w)).flatten)) → Q .normal a' w') : (gRange X.G TS k m bt body c0).wp X.P Q a0 w0 := by
  have hfs := X.fs_le
  have hsz := hst0.size
  refine wp_seq (wp_reg (wpC_val (runs_move _) ?_))
  have z0 : m < a0.tmps.size := by omega
  rw [evT, hv]
  have g1 := (Ag.refl (Tm m) a0).put (d := m) (by unfold Tm; omega) z0 (.slice p vs.length c)
  have e1 : gt (a0.put (some m) (.slice p vs.length c)) m = .slice p vs.length c := by rw [gt_put z0, if_pos rfl]
  generalize a0.put (some m) (.slice p vs.length c) = a1 at g1 e1
  refine wpC_val (runs_len hT e1) ?_
  have z1 : m + 1 < a1.tmps.size := by rw [g1.size]; omega
  have g2 := g1.put (d := m + 1) (by unfold Tm; omega) z1 (.int .i64 (vs.length : Nat))
  have e2 : gt (a1.put (some (m + 1)) (.int .i64 (vs.length : Nat))) (m + 1) = .int .i64 (vs.length : Nat) := by rw [gt_put z1, if_pos rfl]
  generalize a1.put (some (m + 1)) (.int .i64 (vs.length : Nat)) = a2 at g2 e2
  refine wpC_val (runs_move _) (wpC_nil ?_)
  have z2 : m + 2 < a2.tmps.size := by rw [g2.size]; omega
  have g3 := g2.put (d := m + 2) (by unfold Tm; omega) z2 (a2.eval (.const (.int .i64 0)))
  have e3 : gt (a2.put (some (m + 2)) (a2.eval (.const (.int .i64 0)))) (m + 2) = .int .i64 (0 : Nat) := by rw [gt_put z2, if_pos rfl]; rfl
  have e3l : gt (a2.put (some (m + 2)) (a2.eval (.const (.int .i64 0)))) (m + 1) = .int .i64 (vs.length : Nat) := by rw [gt_put z2, if_neg (by omega)]; exact e2
  generalize a2.put (some (m + 2)) (a2.eval (.const (.int .i64 0))) = a3 at g3 e3 e3l
  have st3 : SA X a3 w0 ds := hst0.act g3 (by unfold Tm; omega) (by unfold Tm; omega) (by unfold Tm; omega)
  have f3 : Ag (Cw X.M0 (k + 1) m) a0 a3 := g3.mono fun j hj => by unfold Tm at hj; unfold Cw; omega
  refine wp_block (wp_loop (fun a w => ∃ i : Nat, i ≤ vs.length ∧ gt a (m + 2) = .int .i64 (i : Nat) ∧ gt a (m + 1) = .int .i64 (vs.length : Nat) ∧ Ag (Cw X.M0 (k + 1) m) a0 a ∧ Only (fun j => X.base ≤ j) w0 w ∧ SA X a w (ds ++ ((vs.take i).map (enc em.w)).flatten))
    (fun a _ => vs.length - (intOf (gt a (m + 2))).toNat) ⟨0, Nat.zero_le _, e3, e3l, f3, Only.refl _ _, by simpa using st3⟩ ?_)
  rintro a w ⟨i, hin, hgi, hgl, hag, honly, hst⟩
  have hs := hst.size
  have z3 : m + 3 < a.tmps.size := by omega
  refine wp_seq (wp_reg (wpC_val (runs_cmp .lss _ (.inl ⟨rfl, rfl⟩) (k := .i64) (p := (i : Nat)) (q := (vs.length : Nat)) hgi hgl) (wpC_nil ?_)))
  have g4 := (Ag.refl (fun j => j = m + 3) a).put (d := m + 3) rfl z3 (.bool (decide (((i : Nat) : Int) < ((vs.length : Nat) : Int))))
  have e4 : gt (a.put (some (m + 3)) (.bool (decide (((i : Nat) : Int) < ((vs.length : Nat) : Int))))) (m + 3) = .bool (decide (((i : Nat) : Int) < ((vs.length : Nat) : Int))) := by rw [gt_put z3, if_pos rfl]
  generalize a.put (some (m + 3)) (.bool (decide (((i : Nat) : Int) < ((vs.length : Nat) : Int)))) = a4 at g4 e4
  have st4 : SA X a4 w (ds ++ ((vs.take i).map (enc em.w)).flatten) := hst.act g4 (by omega) (by omega) (by omega)
  have f4 : Ag (Cw X.M0 (k + 1) m) a0 a4 := hag.trans (g4.mono fun j hj => by unfold Cw; omega)
  refine wp_seq (wp_cond (t := decide (((i : Nat) : Int) < ((vs.length : Nat) : Int))) e4 ?_)
  by_cases hlt : i < vs.length
  · rw [if_pos (by simp; omega)]
    have hvi : vs[i]? = some vs[i] := List.getElem?_eq_getElem hlt
    have hfl := flat_take_succ em vs i vs[i] hvi
    have hle := flat_take_le em vs (i + 1)
    rw [hfl, List.length_append] at hle
    refine wp_skip (wp_seq (wp_block (hbody _ a4 w _ i vs[i] hvi st4 ((g4.keep _ (by omega)).trans hgi) f4 honly (by rw [List.length_append]; omega) _ fun a5 w5 g5 o5 st5 => ?_)))
    have i5 : gt a5 (m + 2) = .int .i64 (i : Nat) := (g5.keep _ (by unfold Cw; omega)).trans ((g4.keep _ (by omega)).trans hgi)
    have l5 : gt a5 (m + 1) = .int .i64 (vs.length : Nat) := (g5.keep _ (by unfold Cw; omega)).trans ((g4.keep _ (by omega)).trans hgl)
    have s5 := st5.size
    show (reg _ _).wp X.P _ a5 w5
    refine wp_reg (wpC_val (runs_add (k := .i64) (p := (i : Nat)) (q := 1) i5 rfl) ?_)
    have ew : IntKind.i64.wrap ((i : Nat) + 1) = ((i + 1 : Nat) : Int) := by rw [IntWalk.i64_in _ (by omega)]; omega
    rw [ew]
    have z5 : m + 4 + bt < a5.tmps.size := by omega
    have g6 := (Ag.refl (Tm (m + 2)) a5).put (d := m + 4 + bt) (by unfold Tm; omega) z5 (.int .i64 ((i + 1 : Nat) : Int))
    have e6 : gt (a5.put (some (m + 4 + bt)) (.int .i64 ((i + 1 : Nat) : Int))) (m + 4 + bt) = .int .i64 ((i + 1 : Nat) : Int) := by rw [gt_put z5, if_pos rfl]
    have e6l : gt (a5.put (some (m + 4 + bt)) (.int .i64 ((i + 1 : Nat) : Int))) (m + 1) = .int .i64 (vs.length : Nat) := by rw [gt_put z5, if_neg (by omega)]; exact l5
    generalize a5.put (some (m + 4 + bt)) (.int .i64 ((i + 1 : Nat) : Int)) = a6 at g6 e6 e6l
    refine wpC_val (runs_move _) (wpC_nil ?_)
    rw [evT, e6]
    have z6 : m + 2 < a6.tmps.size := by rw [g6.size]; omega
    have g7 := g6.put (d := m + 2) (by unfold Tm; omega) z6 (.int .i64 ((i + 1 : Nat) : Int))
    have e7 : gt (a6.put (some (m + 2)) (.int .i64 ((i + 1 : Nat) : Int))) (m + 2) = .int .i64 ((i + 1 : Nat) : Int) := by rw [gt_put z6, if_pos rfl]
    have e7l : gt (a6.put (some (m + 2)) (.int .i64 ((i + 1 : Nat) : Int))) (m + 1) = .int .i64 (vs.length : Nat) := by rw [gt_put z6, if_neg (by omega)]; exact e6l
    generalize a6.put (some (m + 2)) (.int .i64 ((i + 1 : Nat) : Int)) = a7 at g7 e7 e7l
    refine ⟨⟨i + 1, hlt, e7, e7l, (f4.trans (g5.cw (Nat.le_refl _) (by omega))).trans (g7.mono fun j hj => by unfold Tm at hj; unfold Cw; omega), honly.trans o5, ?_⟩, ?_⟩
    · rw [hfl, ← List.append_assoc]
      exact st5.act g7 (by unfold Tm; omega) (by unfold Tm; omega) (by unfold Tm; omega)
    · rw [e7, hgi]; simp [intOf]; omega
  · obtain rfl : i = vs.length := by omega
    rw [if_neg (by simp)]
    refine wp_exit ?_
    show (if Code.id0 (pc c0 [1]) = Code.id0 (pc c0 [1]) then Q .normal a4 w else Q (.exit _) a4 w)
    rw [if_pos rfl]
    rw [List.take_length] at st4
    exact h a4 w f4 honly st4

/-! ### tags -/

def gATags (G : Hn) (FL FU FE T i s m : Nat) (c : Code) : Code :=
  .seq (gMove 6 m (pc c [0])) (.cond (.tmp m) (.seq
    (reg [⟨some (m + 1), .move (.tmp 1), none⟩, ⟨some (m + 2), .move (.tmp s), none⟩, ⟨some (m + 3), .nilCheck (.tmp (m + 2)), none⟩, ⟨some (m + 4), .fieldAddr T (.tmp (m + 3)) i, none⟩, ⟨some (m + 5), .call ⟨.value (.func FL), #[.tmp (m + 4)], #[G.tg]⟩, none⟩,
      ⟨some (m + 6), .convert G.int G.u32 (.tmp (m + 5)), none⟩, ⟨some (m + 7), .binOp .add G.u32 (.const (.int .u32 0)) (.tmp (m + 6)) G.u32, none⟩, ⟨some (m + 8), .call ⟨.value (.func FU), #[.tmp (m + 1), .tmp (m + 7)], #[G.sl, G.u32]⟩, none⟩, ⟨some 1, .assign (.tmp (m + 8)), none⟩] (pc c [1, 0, 0]))
    (reg [⟨some (m + 9), .move (.tmp s), none⟩, ⟨some (m + 10), .nilCheck (.tmp (m + 9)), none⟩, ⟨some (m + 11), .fieldAddr T (.tmp (m + 10)) i, none⟩, ⟨some (m + 12), .move (.tmp 1), none⟩, ⟨some (m + 13), .call ⟨.value (.func FE), #[.tmp (m + 11), .tmp (m + 12)], #[G.tg, G.sl]⟩, none⟩, ⟨some 1, .assign (.tmp (m + 13)), none⟩] (pc c [1, 0, 1]))) .skip)

theorem runs_conv {P : Program} {a : Act} {w : World} {t1 t2 : Nat} {x : Operand} {k1 k2 : IntKind} {n : Int} (h1 : P.underlying t1 = some (.int k1)) (h2 : P.underlying t2 = some (.int k2)) (hx : a.eval x = .int k1 n) : Runs P a w (.convert t1 t2 x) (.int k2 (k2.wrap n)) w := by
  intro o h
  simp [execOp, h, hx, convert, run_underlying h1, run_underlying h2, Conv.intToInt]

theorem gATags_wp {FL FU FE T i o u s k m b off lo hi : Nat} {c0 : Code} {l : List (Nat × List UInt8)} (hint : X.P.underlying X.G.int = some (.int .i64)) (hu32 : X.P.underlying X.G.u32 = some (.int .u32)) (hfx : X.fx = true) (hfl : X.flex = true)
    (hL : TLenC X.P FL) (hU : UvC X.P X.G.u8 FU) (hE : TEachC X.P X.G.u8 FE X.q) {a : Act} {w : World} {ds : List UInt8} (hst : SA X a w ds) (hs : gt a s = .pointer (some ⟨b, off, none⟩)) (hf : FieldAt X.P T i o u 1) (hH : Holds X.D .tags w lo hi b (off + o) (.tags l)) (hw : wf .tags (.tags l))
    (hbB : b < X.base) (hhi : hi ≤ X.base) (hlo : X.q = false → X.base ≤ lo) (hD : X.D < X.base) (h6 : X.fs < k) (h1s : s ≠ 1) (hsk : s < k) (hk : k ≤ X.M0) (hm : X.M0 ≤ m) (hN : m + 14 ≤ X.N) (hl : ds.length + (enc .tags (.tags l)).length + 16 ≤ lim2)
    (h : ∀ a' w', Ag (Cw X.M0 k m) a a' → Only (fun j => X.base ≤ j) w w' → SA X a' w' (ds ++ enc .tags (.tags l)) → Q .normal a' w') : (gATags X.G FL FU FE T i s m c0).wp X.P Q a w := by
  have hfs := AX.fs6 hfx
  have hsz := hst.size
  have hbase := hst.base
  obtain ⟨cs, hc1, hc2⟩ := RK.of_holds (k := .tags) hH
  have hls : l.length < 4294967296 := hw.2
  have z0 : m < a.tmps.size := by omega
  refine wp_seq (gMove_wp' z0 ?_)
  have g1 := (Ag.refl (Tm m) a).put (d := m) (by unfold Tm; omega) z0 (gt a 6)
  have e1 : gt (a.put (some m) (gt a 6)) m = .bool true := by rw [gt_put z0, if_pos rfl, hst.fl hfx, hfl]
  generalize a.put (some m) (gt a 6) = a1 at g1 e1
  refine wp_cond_true e1 (wp_seq (wp_reg (wpC_val (runs_move _) ?_)))
  have z1 : m + 1 < a1.tmps.size := by rw [g1.size]; omega
  rw [evT, show gt a1 1 = gt a 1 from g1.keep 1 (by unfold Tm; omega)]
  have g2 := g1.put (d := m + 1) (by unfold Tm; omega) z1 (gt a 1)
  have e2 : gt (a1.put (some (m + 1)) (gt a 1)) (m + 1) = gt a 1 := by rw [gt_put z1, if_pos rfl]
  generalize a1.put (some (m + 1)) (gt a 1) = a2 at g2 e2
  have s2 : gt a2 s = .pointer (some ⟨b, off, none⟩) := (g2.keep s (by unfold Tm; omega)).trans hs
  refine wpC_val (runs_move _) ?_
  rw [evT, s2]
  have z2 : m + 2 < a2.tmps.size := by rw [g2.size]; omega
  have g3 := g2.put (d := m + 2) (by unfold Tm; omega) z2 (.pointer (some ⟨b, off, none⟩))
  have e3 : gt (a2.put (some (m + 2)) (.pointer (some ⟨b, off, none⟩))) (m + 2) = .pointer (some ⟨b, off, none⟩) := by rw [gt_put z2, if_pos rfl]
  have d3 : gt (a2.put (some (m + 2)) (.pointer (some ⟨b, off, none⟩))) (m + 1) = gt a 1 := by rw [gt_put z2, if_neg (by omega)]; exact e2
  generalize a2.put (some (m + 2)) (.pointer (some ⟨b, off, none⟩)) = a3 at g3 e3 d3
  refine wpC_val (runs_nilCheck (p := ⟨b, off, none⟩) e3) ?_
  have z3 : m + 3 < a3.tmps.size := by rw [g3.size]; omega
  have g4 := g3.put (d := m + 3) (by unfold Tm; omega) z3 (.pointer (some ⟨b, off, none⟩))
  have e4 : gt (a3.put (some (m + 3)) (.pointer (some ⟨b, off, none⟩))) (m + 3) = .pointer (some ⟨b, off, none⟩) := by rw [gt_put z3, if_pos rfl]
  have d4 : gt (a3.put (some (m + 3)) (.pointer (some ⟨b, off, none⟩))) (m + 1) = gt a 1 := by rw [gt_put z3, if_neg (by omega)]; exact d3
  generalize a3.put (some (m + 3)) (.pointer (some ⟨b, off, none⟩)) = a4 at g4 e4 d4
  refine wpC_val (runs_fieldAddr hf (p := ⟨b, off, none⟩) e4) ?_
  rw [Addr.add_lit]
  have z4 : m + 4 < a4.tmps.size := by rw [g4.size]; omega
  have g5 := g4.put (d := m + 4) (by unfold Tm; omega) z4 (.pointer (some ⟨b, off + o, none⟩))
  have e5 : gt (a4.put (some (m + 4)) (.pointer (some ⟨b, off + o, none⟩))) (m + 4) = .pointer (some ⟨b, off + o, none⟩) := by rw [gt_put z4, if_pos rfl]
  have d5 : gt (a4.put (some (m + 4)) (.pointer (some ⟨b, off + o, none⟩))) (m + 1) = gt a 1 := by rw [gt_put z4, if_neg (by omega)]; exact d4
  generalize a4.put (some (m + 4)) (.pointer (some ⟨b, off + o, none⟩)) = a5 at g5 e5 d5
  refine wpC_call (R := fun v w' => v = .int .i64 (l.length : Nat) ∧ Only (fun _ => False) w w') hL.1 (by rw [args1 e5]; exact hL.2 X.D w b (off + o) lo hi cs l hc1 hc2) ?_
  rintro v w1 ⟨rfl, ho1⟩
  have z5 : m + 5 < a5.tmps.size := by rw [g5.size]; omega
  have g6 := g5.put (d := m + 5) (by unfold Tm; omega) z5 (.int .i64 (l.length : Nat))
  have e6 : gt (a5.put (some (m + 5)) (.int .i64 (l.length : Nat))) (m + 5) = .int .i64 (l.length : Nat) := by rw [gt_put z5, if_pos rfl]
  have d6 : gt (a5.put (some (m + 5)) (.int .i64 (l.length : Nat))) (m + 1) = gt a 1 := by rw [gt_put z5, if_neg (by omega)]; exact d5
  generalize a5.put (some (m + 5)) (.int .i64 (l.length : Nat)) = a6 at g6 e6 d6
  refine wpC_val (runs_conv hint hu32 e6) ?_
  rw [IntWalk.u32_in _ (by omega)]
  have z6 : m + 6 < a6.tmps.size := by rw [g6.size]; omega
  have g7 := g6.put (d := m + 6) (by unfold Tm; omega) z6 (.int .u32 (l.length : Nat))
  have e7 : gt (a6.put (some (m + 6)) (.int .u32 (l.length : Nat))) (m + 6) = .int .u32 (l.length : Nat) := by rw [gt_put z6, if_pos rfl]
  have d7 : gt (a6.put (some (m + 6)) (.int .u32 (l.length : Nat))) (m + 1) = gt a 1 := by rw [gt_put z6, if_neg (by omega)]; exact d6
  generalize a6.put (some (m + 6)) (.int .u32 (l.length : Nat)) = a7 at g7 e7 d7
  refine wpC_val (runs_add (k := .u32) (p := 0) (q := (l.length : Nat)) rfl e7) ?_
  rw [Int.zero_add, IntWalk.u32_in _ (by omega)]
  have z7 : m + 7 < a7.tmps.size := by rw [g7.size]; omega
  have g8 := g7.put (d := m + 7) (by unfold Tm; omega) z7 (.int .u32 (l.length : Nat))
  have e8 : gt (a7.put (some (m + 7)) (.int .u32 (l.length : Nat))) (m + 7) = .int .u32 (l.length : Nat) := by rw [gt_put z7, if_pos rfl]
  have d8 : gt (a7.put (some (m + 7)) (.int .u32 (l.length : Nat))) (m + 1) = gt a 1 := by rw [gt_put z7, if_neg (by omega)]; exact d7
  generalize a7.put (some (m + 7)) (.int .u32 (l.length : Nat)) = a8 at g8 e8 d8
  have hb1 : X.base ≤ w1.heap.size := Nat.le_trans hbase ho1.size
  simp only [enc, List.length_append] at hl
  refine wpC_call (R := fun v w' => Own X.G.u8 X.base w' v (ds ++ uvEnc l.length) ∧ Only (fun j => X.base ≤ j) w1 w') hU.1 (by rw [args2 d8 e8]; exact hU.2 X.base w1 _ ds l.length (hst.own.keep ho1) hls hb1 (by omega)) ?_
  rintro v w2 ⟨hv2, ho2⟩
  have z8 : m + 8 < a8.tmps.size := by rw [g8.size]; omega
  have g9 := g8.put (d := m + 8) (by unfold Tm; omega) z8 v
  have e9 : gt (a8.put (some (m + 8)) v) (m + 8) = v := by rw [gt_put z8, if_pos rfl]
  generalize a8.put (some (m + 8)) v = a9 at g9 e9
  refine wpC_val (runs_assign _) (wpC_nil ?_)
  rw [evT, e9]
  have z9 : 1 < a9.tmps.size := by rw [g9.size]; omega
  have g10 : Ag (Cw X.M0 k m) a (a9.put (some 1) v) := (g9.mono (S' := Cw X.M0 k m) fun j hj => by unfold Tm at hj; unfold Cw; omega).put (d := 1) (.inl rfl) z9 v
  have e10 : gt (a9.put (some 1) v) 1 = v := by rw [gt_put z9, if_pos rfl]
  generalize a9.put (some 1) v = a10 at g10 e10
  have o12 : Only (fun j => X.base ≤ j) w w2 := (ho1.none _).trans ho2
  -- each tag
  show (reg _ _).wp X.P _ a10 w2
  refine wp_reg (wpC_val (runs_move _) ?_)
  have y0 : m + 9 < a10.tmps.size := by rw [g10.size]; omega
  rw [evT, show gt a10 s = .pointer (some ⟨b, off, none⟩) from (g10.keep s (by unfold Cw; omega)).trans hs]
  have k1 := (Ag.refl (Tm m) a10).put (d := m + 9) (by unfold Tm; omega) y0 (.pointer (some ⟨b, off, none⟩))
  have q1 : gt (a10.put (some (m + 9)) (.pointer (some ⟨b, off, none⟩))) (m + 9) = .pointer (some ⟨b, off, none⟩) := by rw [gt_put y0, if_pos rfl]
  generalize a10.put (some (m + 9)) (.pointer (some ⟨b, off, none⟩)) = b1 at k1 q1
  refine wpC_val (runs_nilCheck (p := ⟨b, off, none⟩) q1) ?_
  have y1 : m + 10 < b1.tmps.size := by rw [k1.size, g10.size]; omega
  have k2 := k1.put (d := m + 10) (by unfold Tm; omega) y1 (.pointer (some ⟨b, off, none⟩))
  have q2 : gt (b1.put (some (m + 10)) (.pointer (some ⟨b, off, none⟩))) (m + 10) = .pointer (some ⟨b, off, none⟩) := by rw [gt_put y1, if_pos rfl]
  generalize b1.put (some (m + 10)) (.pointer (some ⟨b, off, none⟩)) = b2 at k2 q2
  refine wpC_val (runs_fieldAddr hf (p := ⟨b, off, none⟩) q2) ?_
  rw [Addr.add_lit]
  have y2 : m + 11 < b2.tmps.size := by rw [k2.size, g10.size]; omega
  have k3 := k2.put (d := m + 11) (by unfold Tm; omega) y2 (.pointer (some ⟨b, off + o, none⟩))
  have q3 : gt (b2.put (some (m + 11)) (.pointer (some ⟨b, off + o, none⟩))) (m + 11) = .pointer (some ⟨b, off + o, none⟩) := by rw [gt_put y2, if_pos rfl]
  generalize b2.put (some (m + 11)) (.pointer (some ⟨b, off + o, none⟩)) = b3 at k3 q3
  refine wpC_val (runs_move _) ?_
  rw [evT, show gt b3 1 = v from (k3.keep 1 (by unfold Tm; omega)).trans e10]
  have y3 : m + 12 < b3.tmps.size := by rw [k3.size, g10.size]; omega
  have k4 := k3.put (d := m + 12) (by unfold Tm; omega) y3 v
  have q4 : gt (b3.put (some (m + 12)) v) (m + 12) = v := by rw [gt_put y3, if_pos rfl]
  have q4b : gt (b3.put (some (m + 12)) v) (m + 11) = .pointer (some ⟨b, off + o, none⟩) := by rw [gt_put y3, if_neg (by omega)]; exact q3
  generalize b3.put (some (m + 12)) v = b4 at k4 q4 q4b
  have hc1' : Cells w2 b (off + o) cs := fun j u hu => (World.cell?_of_block (w := w) (o12.block b (by omega) (by omega))).trans (hc1 j u hu)
  have hc2' : LTags X.D w2 lo hi cs (.tags l) := RK.leaf_keep (k := .tags) hc2 (o12.block _ (by omega) (by omega)) fun q q1 q2 => o12.block q (by omega) (by omega)
  have hb2 : X.base ≤ w2.heap.size := Nat.le_trans hbase o12.size
  refine wpC_call (R := fun v' w' => Own X.G.u8 X.base w' v' (ds ++ uvEnc l.length ++ encTags l) ∧ Only (fun j => X.base ≤ j) w2 w') hE.1 (by rw [args2 q4b q4]; exact hE.2 X.D X.base w2 v _ b (off + o) lo hi cs l hv2 hc1' hc2' hw.1 hls hbB hhi hlo hD hb2 (by rw [List.length_append]; omega)) ?_
  rintro v' w3 ⟨hv3, ho3⟩
  have y4 : m + 13 < b4.tmps.size := by rw [k4.size, g10.size]; omega
  have k5 := k4.put (d := m + 13) (by unfold Tm; omega) y4 v'
  have q5 : gt (b4.put (some (m + 13)) v') (m + 13) = v' := by rw [gt_put y4, if_pos rfl]
  generalize b4.put (some (m + 13)) v' = b5 at k5 q5
  refine wpC_val (runs_assign _) (wpC_nil ?_)
  rw [evT, q5]
  have y5 : 1 < b5.tmps.size := by rw [k5.size, g10.size]; omega
  have k6 : Ag (Cw X.M0 k m) a (b5.put (some 1) v') := g10.trans ((k5.mono (S' := Cw X.M0 k m) fun j hj => by unfold Tm at hj; unfold Cw; omega).put (d := 1) (.inl rfl) y5 v')
  refine h _ w3 k6 (o12.trans ho3) (hst.next k6 h6 (by omega) ?_ (o12.trans ho3))
  rw [gt_put y5, if_pos rfl]
  simpa [enc, List.append_assoc] using hv3
end
end Go.Proofs.YtpefipjgcpchaaaGreatDoorR.Kf

namespace Go.Proofs.YtpefipjgcpchaaaGreatDoorR.Kf
set_option linter.unusedVariables false
set_option linter.unusedSimpArgs false
open Go Go.RowKit

inductive A
  | done
  | val (c : Cond) (i o u : Nat) (v : AV) (rest : A)
  | arrV (c : Cond) (i o TS eb : Nat) (zs : List Value) (n : Option Int) (l : AL) (u : Nat) (v : AV) (rest : A)
  | arrS (c : Cond) (i o TS eb : Nat) (zs : List Value) (n : Option Int) (l : AL) (T : Nat) (body rest : A)
  | tags (i o u FL FU FE : Nat) (rest : A)
  | optS (c : Cond) (i o PT sl T sz : Nat) (body rest : A)
  | inl (c : Cond) (i o u n T : Nat) (body rest : A)
  | vv (c : Cond) (i o PT st : Nat) (cv : Int) (Fc Fp Gc Gp : Nat) (rest : A)

def A.isDone : A → Bool
  | .done => true
  | _ => false

def A.k : A → Nat
  | .done => 0
  | .val _ _ _ _ v r => v.kn + r.k
  | .arrV _ _ _ _ _ _ _ _ _ v r => 2 + v.kn + r.k
  | .arrS _ _ _ _ _ _ _ _ _ b r => 3 + b.k + r.k
  | .tags _ _ _ _ _ _ r => r.k
  | .optS _ _ _ _ _ _ _ b r => 1 + b.k + r.k
  | .inl _ _ _ _ _ _ b r => 1 + b.k + r.k
  | .vv _ _ _ _ _ _ _ _ _ _ r => 3 + r.k
def A.t : A → Nat
  | .done => 0
  | .val c _ _ _ v r => c.t + (4 + v.t) + r.t
  | .arrV c _ _ _ _ _ _ l _ v r => c.t + (4 + l.t + 5 + (5 + v.t)) + r.t
  | .arrS c _ _ _ _ _ _ l _ b r => c.t + (4 + l.t + 5 + (4 + b.t)) + r.t
  | .tags _ _ _ _ _ _ r => 14 + r.t
  | .optS c _ _ _ _ _ _ b r => c.t + (12 + b.t) + r.t
  | .inl c _ _ _ _ _ b r => c.t + (3 + b.t) + r.t
  | .vv c _ _ _ _ _ _ _ _ _ r => c.t + 26 + r.t

/-- The forms that it writes (n, of a list: from which version on one that is null is read as such: the reading's matter). -/
def A.m (ver : Int) (flex : Bool) : A → M
  | .done => .unit
  | .val c _ o _ v r => if c.holds ver then .fld o (v.rk flex).m (r.m ver flex) else r.m ver flex
  | .arrV c _ o _ _ zs n l _ v r => if c.holds ver then .fld o (.arr (l.c flex) n.isSome (nullR ver n) zs.length (v.rk flex).m) (r.m ver flex) else r.m ver flex
  | .arrS c _ o _ _ zs n l _ b r => if c.holds ver then .fld o (.arr (l.c flex) n.isSome (nullR ver n) zs.length (b.m ver flex)) (r.m ver flex) else r.m ver flex
  | .tags _ o _ _ _ _ r => if flex then .fld o .tags (r.m ver flex) else r.m ver flex
  | .optS c _ o _ _ _ sz b r => if c.holds ver then .fld o (.opt sz (b.m ver flex)) (r.m ver flex) else r.m ver flex
  | .inl c _ o _ _ _ b r => if c.holds ver then .fld o (b.m ver flex) (r.m ver flex) else r.m ver flex
  | .vv c _ o _ _ cv _ _ _ _ r => if c.holds ver then .fld o (if ver < cv then .pstr flex else .str flex true) (r.m ver flex) else r.m ver flex

def A.ok (P : Program) (U : Nat) (q fx : Bool) : A → Nat → Prop
  | .done, _ => True
  | .val _ i o u v r, T => v.ok P U fx ∧ (∀ flex, FieldAt P T i o u (v.rk flex).n ∧ Ld P u (v.rk flex)) ∧ r.ok P U q fx T
  | .arrV _ i o TS eb zs n l u v r, T => l.fit n ∧ l.ok P U fx ∧ FieldAt P T i o TS 1 ∧ Sl P TS zs.length eb zs ∧ v.ok P U fx ∧ (∀ flex, (v.rk flex).n = zs.length ∧ Ld P u (v.rk flex)) ∧ r.ok P U q fx T
  | .arrS _ i o TS eb zs n l T' b r, T => l.fit n ∧ l.ok P U fx ∧ FieldAt P T i o TS 1 ∧ Sl P TS zs.length eb zs ∧ b.ok P U q fx T' ∧ r.ok P U q fx T
  | .tags i o u FL FU FE r, T => fx = true ∧ FieldAt P T i o u 1 ∧ TLenC P FL ∧ UvC P U FU ∧ TEachC P U FE q ∧ r.ok P U q fx T
  | .optS _ i o PT sl T' _ b r, T => FieldAt P T i o PT 1 ∧ One P PT ∧ P.underlying PT = some (.pointer (P.pointee PT)) ∧ OctT P sl U ∧ b.ok P U q fx T' ∧ r.ok P U q fx T
  | .inl _ i o u n T' b r, T => FieldAt P T i o u n ∧ b.ok P U q fx T' ∧ r.ok P U q fx T
  | .vv _ i o PT st _ Fc Fp Gc Gp r, T => FieldAt P T i o PT 1 ∧ One P PT ∧ P.underlying PT = some (.pointer (P.pointee PT)) ∧ One P st ∧ (fx = true ∧ AppC P U Fc (.str true false) ∧ AppC P U Fp (.str false false)) ∧ (fx = true ∧ AppC P U Gc (.str true true) ∧ AppC P U Gp (.str false true)) ∧ r.ok P U q fx T

/-- A new variable's value: into its slot, or into a box. -/
def putV (bx : Option Nat) (k j : Nat) : List Core :=
  match bx with
  | none => [⟨some k, .assign (.tmp j), none⟩]
  | some ub => [⟨some k, .alloc ub, none⟩, ⟨none, .store ub (.tmp k) (.tmp j), none⟩]
def gLoadX (bx : Option Nat) (T i u s k m : Nat) (c0 : Code) : Code :=
  reg (⟨some m, .move (.tmp s), none⟩ :: ⟨some (m + 1), .nilCheck (.tmp m), none⟩ :: ⟨some (m + 2), .fieldAddr T (.tmp (m + 1)) i, none⟩ :: ⟨some (m + 3), .load u (.tmp (m + 2)), none⟩ :: putV bx k (m + 3)) c0

def gElV (G : Hn) (TS u k ctr m : Nat) (v : AV) (c : Code) : Code :=
  .seq (gCopy ctr (k + 1) m (pc c [0]))
  (.seq (reg (⟨some (m + 1), .move (.tmp k), none⟩ :: ⟨some (m + 2), .move (.tmp (k + 1)), none⟩ :: ⟨some (m + 3), .indexAddr TS (.tmp (m + 1)) (.tmp (m + 2)), none⟩ :: ⟨some (m + 4), .load u (.tmp (m + 3)), none⟩ :: putV v.bx (k + 2) (m + 4)) (pc c [1, 0]))
  (gAV G u (k + 2) (m + 5) v (pc c [1, 1])))

def gElS (TS k ctr m : Nat) (body : Code → Code) (c : Code) : Code :=
  .seq (gCopy ctr (k + 1) m (pc c [0]))
  (.seq (reg [⟨some (m + 1), .move (.tmp k), none⟩, ⟨some (m + 2), .move (.tmp (k + 1)), none⟩, ⟨some (m + 3), .indexAddr TS (.tmp (m + 1)) (.tmp (m + 2)), none⟩, ⟨some (k + 2), .assign (.tmp (m + 3)), none⟩] (pc c [1, 0]))
  (body (pc c [1, 1])))

/-- A text that may be none, but of old is a text. -/
def gVv (G : Hn) (T i PT st : Nat) (cv : Int) (Fc Fp Gc Gp s k m : Nat) (c : Code) : Code :=
  .seq (gLoad T i PT s k m (pc c [0])) (.seq (reg [⟨some (m + 4), .move (.tmp 5), none⟩, ⟨some (m + 5), .binOp .lss G.i16 (.tmp (m + 4)) (.const (.int .i16 cv)) G.i16, none⟩] (pc c [1, 0]))
    (.cond (.tmp (m + 5))
      (.seq (gConst (k + 1) (.string ⟨#[]⟩) (pc c [1, 1, 0, 0]))
        (.seq (.seq (reg [⟨some (m + 6), .move (.tmp k), none⟩, ⟨some (m + 7), .binOp .neq PT (.tmp (m + 6)) (.const (.pointer none)) PT, none⟩] (pc c [1, 1, 0, 1, 0, 0])) (.cond (.tmp (m + 7)) (reg [⟨some (m + 8), .move (.tmp k), none⟩, ⟨some (m + 9), .nilCheck (.tmp (m + 8)), none⟩, ⟨some (m + 10), .load st (.tmp (m + 9)), none⟩, ⟨some (k + 1), .assign (.tmp (m + 10)), none⟩] (pc c [1, 1, 0, 1, 0, 1, 0])) .skip))
          (.seq (gCopy (k + 1) (k + 2) (m + 11) (pc c [1, 1, 0, 1, 1, 0])) (gAV G st (k + 2) (m + 12) (.two (.str true false) (.str false false) Fc Fp) (pc c [1, 1, 0, 1, 1, 1])))))
      (gAV G PT k (m + 19) (.two (.str true true) (.str false true) Gc Gp) (pc c [1, 1, 1]))))

def gA (G : Hn) : A → (T s k m : Nat) → Option (Code → Code) → Code → Code
  | .done, _, _, _, _, tail, c => match tail with | some t => t c | none => .skip
  | .val cd i _ u v r, T, s, k, m, tail, c => join (gCond G.i16 5 m (fun c => .seq (gLoadX v.bx T i u s k (m + cd.t) (pc c [0])) (gAV G u k (m + cd.t + 4) v (pc c [1]))) cd) (r.isDone && tail.isNone) (gA G r T s (k + v.kn) (m + (cd.t + (4 + v.t))) tail) c
  | .arrV cd i _ TS _ _ _ l u v r, T, s, k, m, tail, c => join (gCond G.i16 5 m (fun c => .seq (gLoad T i TS s k (m + cd.t) (pc c [0])) (.seq (gALen G TS k (m + cd.t + 4) l (pc c [1, 0]))
        (gRange G TS k (m + cd.t + 4 + l.t) (5 + v.t) (gElV G TS u k (m + cd.t + 4 + l.t + 2) (m + cd.t + 4 + l.t + 4) v) (pc c [1, 1])))) cd)
      (r.isDone && tail.isNone) (gA G r T s (k + (2 + v.kn)) (m + (cd.t + (4 + l.t + 5 + (5 + v.t)))) tail) c
  | .arrS cd i _ TS _ _ _ l T' b r, T, s, k, m, tail, c => join (gCond G.i16 5 m (fun c => .seq (gLoad T i TS s k (m + cd.t) (pc c [0])) (.seq (gALen G TS k (m + cd.t + 4) l (pc c [1, 0]))
        (gRange G TS k (m + cd.t + 4 + l.t) (4 + b.t) (gElS TS k (m + cd.t + 4 + l.t + 2) (m + cd.t + 4 + l.t + 4) (gA G b T' (k + 2) (k + 3) (m + cd.t + 4 + l.t + 4 + 4) none)) (pc c [1, 1])))) cd)
      (r.isDone && tail.isNone) (gA G r T s (k + (3 + b.k)) (m + (cd.t + (4 + l.t + 5 + (4 + b.t)))) tail) c
  | .tags i _ _ FL FU FE r, T, s, k, m, tail, c => join (gATags G FL FU FE T i s m) (r.isDone && tail.isNone) (gA G r T s k (m + 14) tail) c
  | .optS cd i _ PT sl T' _ b r, T, s, k, m, tail, c => join (gCond G.i16 5 m (fun c => .seq (gLoad T i PT s k (m + cd.t) (pc c [0])) (.seq (gIsNil PT k (m + cd.t + 4) (pc c [1, 0])) (.cond (.tmp (m + cd.t + 5)) (gByte sl 255 (m + cd.t + 6) (pc c [1, 1, 0]))
        (.seq (gByte sl 1 (m + cd.t + 9) (pc c [1, 1, 1, 0])) (gA G b T' k (k + 1) (m + cd.t + 12) none (pc c [1, 1, 1, 1])))))) cd)
      (r.isDone && tail.isNone) (gA G r T s (k + (1 + b.k)) (m + (cd.t + (12 + b.t))) tail) c
  | .inl cd i _ _ _ T' b r, T, s, k, m, tail, c => join (gCond G.i16 5 m (fun c => .seq (reg [⟨some (m + cd.t), .move (.tmp s), none⟩, ⟨some (m + cd.t + 1), .nilCheck (.tmp (m + cd.t)), none⟩, ⟨some (m + cd.t + 2), .fieldAddr T (.tmp (m + cd.t + 1)) i, none⟩, ⟨some k, .assign (.tmp (m + cd.t + 2)), none⟩] (pc c [0]))
        (gA G b T' k (k + 1) (m + cd.t + 3) none (pc c [1]))) cd) (r.isDone && tail.isNone) (gA G r T s (k + (1 + b.k)) (m + (cd.t + (3 + b.t))) tail) c
  | .vv cd i _ PT st cv Fc Fp Gc Gp r, T, s, k, m, tail, c => join (gCond G.i16 5 m (gVv G T i PT st cv Fc Fp Gc Gp s k (m + cd.t)) cd) (r.isDone && tail.isNone) (gA G r T s (k + 3) (m + (cd.t + 26)) tail) c

section
variable {X : AX}

/-- A piece of code writes what a form says of a value. -/
def Writes (X : AX) (c : Code) (bs : List UInt8) (k m : Nat) (a : Act) (w : World) (ds : List UInt8) : Prop :=
  ∀ Q : Exit → Act → World → Prop, (∀ a' w', Ag (Cw X.M0 k m) a a' → Only (fun j => X.base ≤ j) w w' → SA X a' w' (ds ++ bs) → Q .normal a' w') → c.wp X.P Q a w


theorem SA.world {a : Act} {w w' : World} {ds : List UInt8} (h : SA X a w ds) (ho : Only (fun _ => False) w w') : SA X a w' ds :=
  ⟨h.size, h.defers, h.ver, h.fl, h.own.keep ho, Nat.le_trans h.base ho.size, h.db⟩
theorem putV_wp {P : Program} {Q : Exit → Act → World → Prop} {bx : Option Nat} {k j : Nat} {a : Act} {w : World} {v : Value} {n : Nat} (hB : ∀ ub, bx = some ub → BxT P ub n) (hn : v.cells.size = n) (h1 : bx.isSome = true → ∀ c ∈ v.cells.toList, c.oneCell' = true) (hj : gt a j = v) (hjk : j ≠ k) (hk : k < a.tmps.size)
    (h : ∀ a' w', Ag (fun i => i = k) a a' → Only (fun _ => False) w w' → InV bx a' k w.heap.size w' v → Q .normal a' w') : wpC P Q (putV bx k j) a w := by
  cases bx with
  | none =>
    refine wpC_val (runs_assign _) (wpC_nil ?_)
    rw [evT, hj]
    exact h _ w ((Ag.refl (fun i => i = k) a).put (d := k) rfl hk v) (Only.refl _ _) (by show gt _ k = v; rw [gt_put hk, if_pos rfl])
  | some ub =>
    have hB := hB ub rfl
    obtain ⟨z, hz, hal⟩ := hB.alc
    refine wpC_val (v := .pointer (some ⟨w.heap.size, 0, none⟩)) (w' := w.alloc (.cells z ub)) (fun o ho => hal o _ _ ho) ?_
    have g1 := (Ag.refl (fun i => i = k) a).put (d := k) rfl hk (.pointer (some ⟨w.heap.size, 0, none⟩))
    have e1 : gt (a.put (some k) (.pointer (some ⟨w.heap.size, 0, none⟩))) k = .pointer (some ⟨w.heap.size, 0, none⟩) := by rw [gt_put hk, if_pos rfl]
    have e2 : gt (a.put (some k) (.pointer (some ⟨w.heap.size, 0, none⟩))) j = v := by rw [gt_put hk, if_neg hjk]; exact hj
    generalize a.put (some k) (.pointer (some ⟨w.heap.size, 0, none⟩)) = a2 at g1 e1 e2
    have hblk : Blk (w.alloc (.cells z ub)) w.heap.size n := ⟨z, ub, by show (w.heap.push _)[w.heap.size]? = _; simp, hz⟩
    obtain ⟨w2, hr, hw⟩ := runs_storeN (P := P) (a := a2) (u := ub) (x := .tmp k) (y := .tmp j) (b := w.heap.size) (o := 0) (v := v) e1 e2 (by obtain ⟨inf, hi, hs⟩ := hB.sz; exact ⟨inf, hi, hs.trans hn.symm⟩) (h1 rfl) hblk (by omega)
    refine wpC_skip hr (wpC_nil (h _ w2 g1 ?_ ?_))
    · have hs1 : (w.alloc (.cells z ub)).heap.size = w.heap.size + 1 := by simp
      have o2 : Only (fun _ => False) w (w.alloc (.cells z ub)) := ⟨rfl, rfl, rfl, by simp, fun j hj _ => by show (w.heap.push _)[j]? = _; rw [Array.getElem?_push, if_neg (by omega)]⟩
      have k2 : ∀ j, j < w.heap.size → w2.heap[j]? = w.heap[j]? := fun j hj => (hw.only.block j (by omega) (by omega)).trans (o2.block j hj id)
      exact ⟨hw.only.os.trans o2.os, hw.only.tape.trans o2.tape, hw.only.output.trans o2.output, by have := hw.same; omega, fun j hj hn => k2 j hj⟩
    · have hs1 : (w.alloc (.cells z ub)).heap.size = w.heap.size + 1 := by simp
      exact ⟨w.heap.size, e1, Nat.le_refl _, by have := hw.same; omega, hw.cells⟩
theorem RK.leaf_one {D : Nat} {k : RK} {w : World} {lo hi : Nat} {cs : List Value} {x : Val} (h : k.leaf D w lo hi cs x) (hk : k = .prim .uuid) : ∀ c ∈ cs, c.oneCell' = true := by
  subst hk
  rcases h with ⟨hp, n, _, _, _, rfl⟩ | ⟨_, s, hs, _, rfl⟩
  · exact absurd rfl hp
  · intro c hc
    obtain ⟨b, _, rfl⟩ := List.mem_map.1 hc
    rfl
theorem AV.boxed {v : AV} (h : v.bx.isSome = true) (f : Bool) : v.rk f = .prim .uuid := by cases v <;> first | rfl | cases h
theorem gLoadX_wp {bx : Option Nat} {P : Program} {Q : Exit → Act → World → Prop} {a : Act} {w : World} {T i o u s k m b off : Nat} {rk : RK} {c0 : Code} {cs : List Value} (hs : gt a s = .pointer (some ⟨b, off, none⟩)) (hf : FieldAt P T i o u rk.n) (hu : Ld P u rk) (hl : cs.length = rk.n) (hv : Cells w b (off + o) cs) (hk : k < m) (hN : m + 4 ≤ a.tmps.size) (hB : ∀ ub, bx = some ub → BxT P ub rk.n ∧ ∀ cs : List Value, valOf rk cs = .agg cs.toArray) (h1 : bx.isSome = true → ∀ c ∈ cs, c.oneCell' = true)
    (h : ∀ a' w', Ag (fun j => j = k ∨ (m ≤ j ∧ j < m + 4)) a a' → Only (fun _ => False) w w' → InV bx a' k w.heap.size w' (valOf rk cs) → Q .normal a' w') : (gLoadX bx T i u s k m c0).wp P Q a w := by
  refine wp_reg (wpC_val (runs_move _) ?_)
  have z0 : m < a.tmps.size := by omega
  rw [evT, hs]
  have g1 := (Ag.refl (fun j => j = k ∨ (m ≤ j ∧ j < m + 4)) a).put (d := m) (by omega) z0 (.pointer (some ⟨b, off, none⟩))
  have e1 : gt (a.put (some m) (.pointer (some ⟨b, off, none⟩))) m = .pointer (some ⟨b, off, none⟩) := by rw [gt_put z0, if_pos rfl]
  generalize a.put (some m) (.pointer (some ⟨b, off, none⟩)) = a1 at g1 e1
  refine wpC_val (runs_nilCheck (p := ⟨b, off, none⟩) e1) ?_
  have z1 : m + 1 < a1.tmps.size := by rw [g1.size]; omega
  have g2 := g1.put (d := m + 1) (by omega) z1 (.pointer (some ⟨b, off, none⟩))
  have e2 : gt (a1.put (some (m + 1)) (.pointer (some ⟨b, off, none⟩))) (m + 1) = .pointer (some ⟨b, off, none⟩) := by rw [gt_put z1, if_pos rfl]
  generalize a1.put (some (m + 1)) (.pointer (some ⟨b, off, none⟩)) = a2 at g2 e2
  refine wpC_val (runs_fieldAddr hf (p := ⟨b, off, none⟩) e2) ?_
  rw [Addr.add_lit]
  have z2 : m + 2 < a2.tmps.size := by rw [g2.size]; omega
  have g3 := g2.put (d := m + 2) (by omega) z2 (.pointer (some ⟨b, off + o, none⟩))
  have e3 : gt (a2.put (some (m + 2)) (.pointer (some ⟨b, off + o, none⟩))) (m + 2) = .pointer (some ⟨b, off + o, none⟩) := by rw [gt_put z2, if_pos rfl]
  generalize a2.put (some (m + 2)) (.pointer (some ⟨b, off + o, none⟩)) = a3 at g3 e3
  refine wpC_val (runs_ld hu e3 hl hv) ?_
  have z3 : m + 3 < a3.tmps.size := by rw [g3.size]; omega
  have g4 := g3.put (d := m + 3) (by omega) z3 (valOf rk cs)
  have e4 : gt (a3.put (some (m + 3)) (valOf rk cs)) (m + 3) = valOf rk cs := by rw [gt_put z3, if_pos rfl]
  generalize a3.put (some (m + 3)) (valOf rk cs) = a4 at g4 e4
  have hvc : bx.isSome = true → (valOf rk cs).cells.size = rk.n := by
    intro hb
    obtain ⟨ub, rfl⟩ := Option.isSome_iff_exists.1 hb
    rw [(hB ub rfl).2 cs]; show cs.toArray.size = _; simpa using hl
  have hv1 : bx.isSome = true → ∀ c ∈ (valOf rk cs).cells.toList, c.oneCell' = true := by
    intro hb
    obtain ⟨ub, rfl⟩ := Option.isSome_iff_exists.1 hb
    rw [(hB ub rfl).2 cs]; show ∀ c ∈ cs.toArray.toList, _; simpa using h1 rfl
  exact putV_wp (n := (valOf rk cs).cells.size) (fun ub hb => by rw [hvc (by rw [hb]; rfl)]; exact (hB ub hb).1) rfl hv1 e4 (by omega) (by rw [g4.size]; omega) fun a' w' ga ho hi => h a' w' (g4.trans (ga.mono fun j hj => by omega)) ho hi

theorem gElV_writes (v : AV) {TS sz eb u k ctr m n c b i lo hi : Nat} {zs : List Value} {c0 : Code} {x : Val} (hS : Sl X.P TS sz eb zs) (hv : v.ok X.P X.G.u8 X.fx) (hu : Ld X.P u (v.rk X.flex)) (hsz : (v.rk X.flex).n = sz) {a : Act} {w : World} {ds : List UInt8} (hst : SA X a w ds)
    (hk0 : gt a k = .slice (some ⟨b, 0, none⟩) n c) (hc : gt a ctr = .int .i64 (i : Nat)) (hin : i < n) (hH : Holds X.D (v.rk X.flex).m w lo hi b (i * sz) x) (hw : wf (v.rk X.flex).m.w x) (h6 : X.fs < k) (hk : k + 2 + v.kn ≤ X.M0) (hm : X.M0 ≤ m) (hcm : ctr < m) (hN : m + 5 + v.t ≤ X.N) (hct : X.M0 ≤ ctr) (hhi : hi ≤ X.base)
    (hl : ds.length + (enc (v.rk X.flex).m.w x).length + 16 ≤ lim2) : Writes X (gElV X.G TS u k ctr m v c0) (enc (v.rk X.flex).m.w x) (k + 1) m a w ds := by
  have hfs := X.fs_le
  have hkn := v.kn_pos
  intro Q hQ
  have hs := hst.size
  obtain ⟨cs, hc1, hc2⟩ := RK.of_holds hH
  have hcl := RK.leaf_len hc2
  refine wp_seq (gCopy_wp (by omega) (by omega) fun a1 g1 v1 => ?_)
  rw [hc] at v1
  have k1 : gt a1 k = .slice (some ⟨b, 0, none⟩) n c := (g1.keep k (by omega)).trans hk0
  have st1 : SA X a1 w ds := hst.act g1 (by omega) (by omega) (by omega)
  have f1 : Ag (Cw X.M0 (k + 1) m) a a1 := g1.mono fun j hj => by unfold Cw; omega
  refine wp_seq (wp_reg (wpC_val (runs_move _) ?_))
  have z1 : m + 1 < a1.tmps.size := by rw [g1.size]; omega
  rw [evT, k1]
  have g2 := (Ag.refl (Tm m) a1).put (d := m + 1) (by unfold Tm; omega) z1 (.slice (some ⟨b, 0, none⟩) n c)
  have e2 : gt (a1.put (some (m + 1)) (.slice (some ⟨b, 0, none⟩) n c)) (m + 1) = .slice (some ⟨b, 0, none⟩) n c := by rw [gt_put z1, if_pos rfl]
  have i2 : gt (a1.put (some (m + 1)) (.slice (some ⟨b, 0, none⟩) n c)) (k + 1) = .int .i64 (i : Nat) := by rw [gt_put z1, if_neg (by omega)]; exact v1
  generalize a1.put (some (m + 1)) (.slice (some ⟨b, 0, none⟩) n c) = a2 at g2 e2 i2
  refine wpC_val (runs_move _) ?_
  rw [evT, i2]
  have z2 : m + 2 < a2.tmps.size := by rw [g2.size, g1.size]; omega
  have g3 := g2.put (d := m + 2) (by unfold Tm; omega) z2 (.int .i64 (i : Nat))
  have e3 : gt (a2.put (some (m + 2)) (.int .i64 (i : Nat))) (m + 2) = .int .i64 (i : Nat) := by rw [gt_put z2, if_pos rfl]
  have e3b : gt (a2.put (some (m + 2)) (.int .i64 (i : Nat))) (m + 1) = .slice (some ⟨b, 0, none⟩) n c := by rw [gt_put z2, if_neg (by omega)]; exact e2
  generalize a2.put (some (m + 2)) (.int .i64 (i : Nat)) = a3 at g3 e3 e3b
  refine wpC_val (runs_indexAddr hS (p := ⟨b, 0, none⟩) e3b e3 (by omega) (by omega)) ?_
  rw [Addr.add_lit, Int.toNat_natCast, Nat.zero_add]
  have z3 : m + 3 < a3.tmps.size := by rw [g3.size, g1.size]; omega
  have g4 := g3.put (d := m + 3) (by unfold Tm; omega) z3 (.pointer (some ⟨b, i * sz, none⟩))
  have e4 : gt (a3.put (some (m + 3)) (.pointer (some ⟨b, i * sz, none⟩))) (m + 3) = .pointer (some ⟨b, i * sz, none⟩) := by rw [gt_put z3, if_pos rfl]
  generalize a3.put (some (m + 3)) (.pointer (some ⟨b, i * sz, none⟩)) = a4 at g4 e4
  refine wpC_val (runs_ld hu e4 hcl hc1) ?_
  have z4 : m + 4 < a4.tmps.size := by rw [g4.size, g1.size]; omega
  have g5 := g4.put (d := m + 4) (by unfold Tm; omega) z4 (valOf (v.rk X.flex) cs)
  have e5 : gt (a4.put (some (m + 4)) (valOf (v.rk X.flex) cs)) (m + 4) = valOf (v.rk X.flex) cs := by rw [gt_put z4, if_pos rfl]
  generalize a4.put (some (m + 4)) (valOf (v.rk X.flex) cs) = a5 at g5 e5
  have h1 : v.bx.isSome = true → ∀ c ∈ cs, c.oneCell' = true := fun hb => RK.leaf_one hc2 (AV.boxed hb _)
  have hBx := AV.box hv X.flex
  have hvc : v.bx.isSome = true → (valOf (v.rk X.flex) cs).cells.size = (v.rk X.flex).n := by
    intro hb
    obtain ⟨ub, hb'⟩ := Option.isSome_iff_exists.1 hb
    rw [(hBx ub hb').2 cs]; show cs.toArray.size = _; simpa using hcl
  have hv1 : v.bx.isSome = true → ∀ c ∈ (valOf (v.rk X.flex) cs).cells.toList, c.oneCell' = true := by
    intro hb
    obtain ⟨ub, hb'⟩ := Option.isSome_iff_exists.1 hb
    rw [(hBx ub hb').2 cs]; show ∀ c ∈ cs.toArray.toList, _; simpa using h1 hb
  refine putV_wp (n := (valOf (v.rk X.flex) cs).cells.size) (fun ub hb => by rw [hvc (by rw [hb]; rfl)]; exact (hBx ub hb).1) rfl hv1 e5 (by omega) (by rw [g5.size, g1.size]; omega) fun a6 w6 ga ho hi6 => ?_
  have g6 : Ag (fun j => j = k + 2 ∨ m ≤ j) a1 a6 := (g5.mono (S' := fun j => j = k + 2 ∨ m ≤ j) fun j hj => .inr hj).trans (ga.mono fun j hj => .inl hj)
  have st6 : SA X a6 w6 ds := (st1.act g6 (by omega) (by omega) (by omega)).world ho
  have f6 : Ag (Cw X.M0 (k + 1) m) a a6 := f1.trans (g6.mono fun j hj => by unfold Cw; omega)
  have hc3 : (v.rk X.flex).leaf X.D w6 lo hi cs x := RK.leaf_keep hc2 (ho.block _ (by have := hst.db; have := hst.base; omega) id) fun q q1 q2 => ho.block q (by have := hst.base; omega) id
  exact gAV_wp v hv st6 f6 hi6 hcl hc3 hw hl (by omega) (by omega) (by omega) (by omega) (by omega) (by omega) (by omega) (by omega) (by omega) fun a' w' p1 p2 p3 => hQ a' w' p1 ((ho.none _).trans p2) p3

theorem runs_isSome {P : Program} {a : Act} {w : World} {PT t2 : Nat} (hT : P.underlying PT = some (.pointer (P.pointee PT))) {x : Operand} {p : Option Addr} (hx : a.eval x = .pointer p) : Runs P a w (.binOp .neq PT x (.const (.pointer none)) t2) (.bool (!p.isNone)) w := by
  intro o h
  have e0 : a.eval (.const (.pointer none)) = .pointer none := rfl
  simp [execOp, h, hx, e0, eqGuard_at_pointer, run_neq_pointer_nil w PT p hT]
theorem gVv_writes {T i o PT st Fc Fp Gc Gp s k m b off lo hi : Nat} {cv : Int} {c0 : Code} {x : Val} (hf : FieldAt X.P T i o PT 1) (h1 : One X.P PT) (hP : X.P.underlying PT = some (.pointer (X.P.pointee PT))) (hst1 : One X.P st) (hF : X.fx = true ∧ AppC X.P X.G.u8 Fc (.str true false) ∧ AppC X.P X.G.u8 Fp (.str false false)) (hG : X.fx = true ∧ AppC X.P X.G.u8 Gc (.str true true) ∧ AppC X.P X.G.u8 Gp (.str false true))
    {a : Act} {w : World} {ds : List UInt8} (hst : SA X a w ds) (hs : gt a s = .pointer (some ⟨b, off, none⟩)) (hH : Holds X.D (if X.ver < cv then .pstr X.flex else .str X.flex true) w lo hi b (off + o) x) (hw : wf (if X.ver < cv then M.pstr X.flex else .str X.flex true).w x) (hl : ds.length + (enc (if X.ver < cv then M.pstr X.flex else .str X.flex true).w x).length + 16 ≤ lim2)
    (h6 : X.fs < k) (hk : k + 3 ≤ X.M0) (hm : X.M0 ≤ m) (hm6 : 6 < m) (hsk : s < k) (hN : m + 26 ≤ X.N) : Writes X (gVv X.G T i PT st cv Fc Fp Gc Gp s k m c0) (enc (if X.ver < cv then M.pstr X.flex else .str X.flex true).w x) k m a w ds := by
  have hfs := X.fs_le
  intro Q hQ
  have hsz := hst.size
  have hcell : ∃ p, w.cell? ⟨b, off + o, none⟩ = some (.pointer p) := by
    split at hH
    · obtain ⟨_, cs, hc, hx⟩ := hH
      rcases hx with ⟨_, rfl⟩ | ⟨s, q, _, rfl, _⟩ <;> exact ⟨_, by have := hc 0 _ rfl; simpa using this⟩
    · obtain ⟨_, cs, hc, hx⟩ := hH
      rcases hx with ⟨hx, _⟩ | ⟨_, ⟨_, rfl⟩ | ⟨s, q, _, rfl, _⟩⟩
      · cases hx
      · exact ⟨_, by have := hc 0 _ rfl; simpa using this⟩
      · exact ⟨_, by have := hc 0 _ rfl; simpa using this⟩
  obtain ⟨p, hp⟩ := hcell
  refine wp_seq (gLoad_wp hs hf h1 hp (by omega) (by omega) fun a1 g1 v1 => ?_)
  have st1 : SA X a1 w ds := hst.act g1 (by omega) (by omega) (by omega)
  have f1 : Ag (Cw X.M0 k m) a a1 := g1.mono fun j hj => by unfold Cw; omega
  refine wp_seq (wp_reg (wpC_val (runs_move _) ?_))
  have z1 : m + 4 < a1.tmps.size := by rw [g1.size]; omega
  have ev : a1.eval (.tmp 5) = .int .i16 X.ver := by rw [evT]; exact st1.ver
  rw [ev]
  have g2 := (Ag.refl (Tm (m + 4)) a1).put (d := m + 4) (by unfold Tm; omega) z1 (.int .i16 X.ver)
  have v2 : gt (a1.put (some (m + 4)) (.int .i16 X.ver)) (m + 4) = .int .i16 X.ver := by rw [gt_put z1, if_pos rfl]
  generalize a1.put (some (m + 4)) (.int .i16 X.ver) = a2 at g2 v2
  refine wpC_val (runs_cmp .lss _ (.inl ⟨rfl, rfl⟩) (k := .i16) (p := X.ver) (q := cv) v2 rfl) (wpC_nil ?_)
  have z2 : m + 5 < a2.tmps.size := by rw [g2.size, g1.size]; omega
  have g3 := g2.put (d := m + 5) (by unfold Tm; omega) z2 (.bool (decide (X.ver < cv)))
  have v3 : gt (a2.put (some (m + 5)) (.bool (decide (X.ver < cv)))) (m + 5) = .bool (decide (X.ver < cv)) := by rw [gt_put z2, if_pos rfl]
  generalize a2.put (some (m + 5)) (.bool (decide (X.ver < cv))) = a3 at g3 v3
  have st3 : SA X a3 w ds := st1.act g3 (by unfold Tm; omega) (by unfold Tm; omega) (by unfold Tm; omega)
  have f3 : Ag (Cw X.M0 k m) a a3 := f1.trans (g3.mono fun j hj => by unfold Tm at hj; unfold Cw; omega)
  have k3 : gt a3 k = .pointer p := (g3.keep k (by unfold Tm; omega)).trans v1
  have sz3 := st3.size
  by_cases hv : X.ver < cv
  · rw [if_pos hv] at hH hw hl hQ
    have t3 : decide (X.ver < cv) = true := by simpa using hv
    rw [t3] at v3
    refine wp_cond_true v3 (wp_seq (wp_reg (wpC_val (runs_assign _) (wpC_nil ?_))))
    have z4 : k + 1 < a3.tmps.size := by omega
    have g4 := (Ag.refl (fun j => j = k + 1) a3).put (d := k + 1) rfl z4 (a3.eval (.const (.string ⟨#[]⟩)))
    have v4 : gt (a3.put (some (k + 1)) (a3.eval (.const (.string ⟨#[]⟩)))) (k + 1) = strV [] := by rw [gt_put z4, if_pos rfl]; rfl
    generalize a3.put (some (k + 1)) (a3.eval (.const (.string ⟨#[]⟩))) = a4 at g4 v4
    have st4 : SA X a4 w ds := st3.act g4 (by omega) (by omega) (by omega)
    have f4 : Ag (Cw X.M0 k m) a a4 := f3.trans (g4.mono fun j hj => by unfold Cw; omega)
    have k4 : gt a4 k = .pointer p := (g4.keep k (by omega)).trans k3
    have sz4 := st4.size
    obtain ⟨hle, cs, hc, hx⟩ := hH
    -- the text in k + 1
    have fin : ∀ (s : List UInt8), x = .bytes (some s) → ∀ a5, Ag (Cw X.M0 k m) a a5 → SA X a5 w ds → gt a5 (k + 1) = strV s → ∀ c1, (Code.seq (gCopy (k + 1) (k + 2) (m + 11) (pc c1 [0])) (gAV X.G st (k + 2) (m + 12) (.two (.str true false) (.str false false) Fc Fp) (pc c1 [1]))).wp X.P Q a5 w := by
      intro s hxs a5 f5 st5 v5 c1
      subst hxs
      have sz5 := st5.size
      refine wp_seq (gCopy_wp (by omega) (by omega) fun a6 g6 v6 => ?_)
      have st6 : SA X a6 w ds := st5.act g6 (by omega) (by omega) (by omega)
      have f6 : Ag (Cw X.M0 k m) a a6 := f5.trans (g6.mono fun j hj => by unfold Cw; omega)
      have hrk : (AV.two (.str true false) (.str false false) Fc Fp).rk X.flex = .str X.flex false := by cases X.flex <;> rfl
      have hxl : ((AV.two (.str true false) (.str false false) Fc Fp).rk X.flex).leaf X.D w lo hi [strV s] (.bytes (some s)) := by rw [hrk]; exact .inl ⟨rfl, s, rfl, rfl⟩
      refine gAV_wp (.two (.str true false) (.str false false) Fc Fp) (cs := [strV s]) (lo0 := 0) hF st6 f6 ?_ (RK.leaf_len hxl) hxl (by rw [hrk]; exact hw) (by rw [hrk]; exact hl) h6 (by omega) (by omega) (by omega) (by omega) (by simp only [AV.t]; omega) (by omega) (by simp only [AV.kn]; omega) (by omega) (by rw [hrk]; exact hQ)
      show gt a6 (k + 2) = valOf _ [strV s]
      rw [v6, v5, hrk]; rfl
    refine wp_seq (wp_seq (wp_reg (wpC_val (runs_move _) ?_)))
    rw [evT, k4]
    have z5 : m + 6 < a4.tmps.size := by omega
    have g5 := (Ag.refl (Tm (m + 6)) a4).put (d := m + 6) (by unfold Tm; omega) z5 (.pointer p)
    have v5 : gt (a4.put (some (m + 6)) (.pointer p)) (m + 6) = .pointer p := by rw [gt_put z5, if_pos rfl]
    generalize a4.put (some (m + 6)) (.pointer p) = a5 at g5 v5
    refine wpC_val (runs_isSome hP v5) (wpC_nil ?_)
    have z6 : m + 7 < a5.tmps.size := by rw [g5.size]; omega
    have g6 := g5.put (d := m + 7) (by unfold Tm; omega) z6 (.bool (!p.isNone))
    have v6 : gt (a5.put (some (m + 7)) (.bool (!p.isNone))) (m + 7) = .bool (!p.isNone) := by rw [gt_put z6, if_pos rfl]
    generalize a5.put (some (m + 7)) (.bool (!p.isNone)) = a6 at g6 v6
    have st6 : SA X a6 w ds := st4.act g6 (by unfold Tm; omega) (by unfold Tm; omega) (by unfold Tm; omega)
    have f6 : Ag (Cw X.M0 k m) a a6 := f4.trans (g6.mono fun j hj => by unfold Tm at hj; unfold Cw; omega)
    rcases hx with ⟨rfl, rfl⟩ | ⟨s, q, rfl, rfl, _, _, hq⟩
    · obtain rfl : p = none := by have := hc 0 _ rfl; rw [Nat.add_zero] at this; rw [this] at hp; simpa using hp.symm
      refine wp_cond_false v6 (wp_skip (fin [] rfl a6 f6 st6 ((g6.keep (k + 1) (by unfold Tm; omega)).trans v4) _))
    · obtain rfl : p = some ⟨q, 0, none⟩ := by have := hc 0 _ rfl; rw [Nat.add_zero] at this; rw [this] at hp; simpa using hp.symm
      have k6 : gt a6 k = .pointer (some ⟨q, 0, none⟩) := (g6.keep k (by unfold Tm; omega)).trans k4
      refine wp_cond_true v6 (wp_reg (wpC_val (runs_move _) ?_))
      rw [evT, k6]
      have sz6 := st6.size
      have z7 : m + 8 < a6.tmps.size := by omega
      have g7 := (Ag.refl (fun j => j = k + 1 ∨ m + 8 ≤ j) a6).put (d := m + 8) (by omega) z7 (.pointer (some ⟨q, 0, none⟩))
      have v7 : gt (a6.put (some (m + 8)) (.pointer (some ⟨q, 0, none⟩))) (m + 8) = .pointer (some ⟨q, 0, none⟩) := by rw [gt_put z7, if_pos rfl]
      generalize a6.put (some (m + 8)) (.pointer (some ⟨q, 0, none⟩)) = a7 at g7 v7
      refine wpC_val (runs_nilCheck (p := ⟨q, 0, none⟩) v7) ?_
      have z8 : m + 9 < a7.tmps.size := by rw [g7.size]; omega
      have g8 := g7.put (d := m + 9) (by omega) z8 (.pointer (some ⟨q, 0, none⟩))
      have v8 : gt (a7.put (some (m + 9)) (.pointer (some ⟨q, 0, none⟩))) (m + 9) = .pointer (some ⟨q, 0, none⟩) := by rw [gt_put z8, if_pos rfl]
      generalize a7.put (some (m + 9)) (.pointer (some ⟨q, 0, none⟩)) = a8 at g8 v8
      refine wpC_val (runs_load hst1 v8 hq) ?_
      have z9 : m + 10 < a8.tmps.size := by rw [g8.size]; omega
      have g9 := g8.put (d := m + 10) (by omega) z9 (strV s)
      have v9 : gt (a8.put (some (m + 10)) (strV s)) (m + 10) = strV s := by rw [gt_put z9, if_pos rfl]
      generalize a8.put (some (m + 10)) (strV s) = a9 at g9 v9
      refine wpC_val (runs_assign _) (wpC_nil ?_)
      rw [evT, v9]
      have z10 : k + 1 < a9.tmps.size := by rw [g9.size]; omega
      have g10 := g9.put (d := k + 1) (by omega) z10 (strV s)
      exact fin s rfl _ (f6.trans (g10.mono fun j hj => by unfold Cw; omega)) (st6.act g10 (by omega) (by omega) (by omega)) (by rw [gt_put z10, if_pos rfl]) _
  · rw [if_neg hv] at hH hw hl hQ
    have t3 : decide (X.ver < cv) = false := by simpa using hv
    rw [t3] at v3
    refine wp_cond_false v3 ?_
    obtain ⟨cs, hc1, hc2⟩ := RK.of_holds (k := .str X.flex true) hH
    have hrk : (AV.two (.str true true) (.str false true) Gc Gp).rk X.flex = .str X.flex true := by cases X.flex <;> rfl
    have hcl := RK.leaf_len hc2
    have hcs : cs = [.pointer p] := by
      obtain ⟨c, rfl⟩ : ∃ c, cs = [c] := List.length_eq_one_iff.1 hcl
      have := hc1 0 c rfl
      rw [Nat.add_zero, hp] at this
      rw [Option.some.inj this]
    refine gAV_wp (.two (.str true true) (.str false true) Gc Gp) (cs := cs) (lo0 := 0) hG st3 f3 ?_ (by rw [hrk]; exact hcl) (by rw [hrk]; exact hc2) (by rw [hrk]; exact hw) (by rw [hrk]; exact hl) h6 (by omega) (by omega) (by omega) (by omega) (by simp only [AV.t]; omega) (Nat.le_refl _) (by simp only [AV.kn]; omega) (by omega) (by rw [hrk]; exact hQ)
    show gt a3 k = valOf _ cs
    rw [k3, hrk, hcs]; rfl

theorem gElS_writes {TS sz eb k ctr m n c b i : Nat} {zs : List Value} {c0 : Code} {bs : List UInt8} {body : Code → Code} (hS : Sl X.P TS sz eb zs) {a : Act} {w : World} {ds : List UInt8} (hst : SA X a w ds)
    (hk0 : gt a k = .slice (some ⟨b, 0, none⟩) n c) (hc : gt a ctr = .int .i64 (i : Nat)) (hin : i < n) (h6 : X.fs < k) (hk : k + 3 ≤ X.M0) (hm : X.M0 ≤ m) (hcm : ctr < m) (hN : m + 4 ≤ X.N) (hct : X.M0 ≤ ctr)
    (hbody : ∀ c a1, SA X a1 w ds → gt a1 (k + 2) = .pointer (some ⟨b, i * sz, none⟩) → Writes X (body c) bs (k + 3) (m + 4) a1 w ds) : Writes X (gElS TS k ctr m body c0) bs (k + 1) m a w ds := by
  have hfs := X.fs_le
  intro Q hQ
  have hs := hst.size
  refine wp_seq (gCopy_wp (by omega) (by omega) fun a1 g1 v1 => ?_)
  rw [hc] at v1
  have k1 : gt a1 k = .slice (some ⟨b, 0, none⟩) n c := (g1.keep k (by omega)).trans hk0
  have st1 : SA X a1 w ds := hst.act g1 (by omega) (by omega) (by omega)
  have f1 : Ag (Cw X.M0 (k + 1) m) a a1 := g1.mono fun j hj => by unfold Cw; omega
  refine wp_seq (wp_reg (wpC_val (runs_move _) ?_))
  have z1 : m + 1 < a1.tmps.size := by rw [g1.size]; omega
  rw [evT, k1]
  have g2 := (Ag.refl (Tm m) a1).put (d := m + 1) (by unfold Tm; omega) z1 (.slice (some ⟨b, 0, none⟩) n c)
  have e2 : gt (a1.put (some (m + 1)) (.slice (some ⟨b, 0, none⟩) n c)) (m + 1) = .slice (some ⟨b, 0, none⟩) n c := by rw [gt_put z1, if_pos rfl]
  have i2 : gt (a1.put (some (m + 1)) (.slice (some ⟨b, 0, none⟩) n c)) (k + 1) = .int .i64 (i : Nat) := by rw [gt_put z1, if_neg (by omega)]; exact v1
  generalize a1.put (some (m + 1)) (.slice (some ⟨b, 0, none⟩) n c) = a2 at g2 e2 i2
  refine wpC_val (runs_move _) ?_
  rw [evT, i2]
  have z2 : m + 2 < a2.tmps.size := by rw [g2.size, g1.size]; omega
  have g3 := g2.put (d := m + 2) (by unfold Tm; omega) z2 (.int .i64 (i : Nat))
  have e3 : gt (a2.put (some (m + 2)) (.int .i64 (i : Nat))) (m + 2) = .int .i64 (i : Nat) := by rw [gt_put z2, if_pos rfl]
  have e3b : gt (a2.put (some (m + 2)) (.int .i64 (i : Nat))) (m + 1) = .slice (some ⟨b, 0, none⟩) n c := by rw [gt_put z2, if_neg (by omega)]; exact e2
  generalize a2.put (some (m + 2)) (.int .i64 (i : Nat)) = a3 at g3 e3 e3b
  refine wpC_val (runs_indexAddr hS (p := ⟨b, 0, none⟩) e3b e3 (by omega) (by omega)) ?_
  rw [Addr.add_lit, Int.toNat_natCast, Nat.zero_add]
  have z3 : m + 3 < a3.tmps.size := by rw [g3.size, g1.size]; omega
  have g4 := g3.put (d := m + 3) (by unfold Tm; omega) z3 (.pointer (some ⟨b, i * sz, none⟩))
  have e4 : gt (a3.put (some (m + 3)) (.pointer (some ⟨b, i * sz, none⟩))) (m + 3) = .pointer (some ⟨b, i * sz, none⟩) := by rw [gt_put z3, if_pos rfl]
  generalize a3.put (some (m + 3)) (.pointer (some ⟨b, i * sz, none⟩)) = a4 at g4 e4
  refine wpC_val (runs_assign _) (wpC_nil ?_)
  rw [evT, e4]
  have z5 : k + 2 < a4.tmps.size := by rw [g4.size, g1.size]; omega
  have g6 := (g4.mono (S' := fun j => j = k + 2 ∨ m ≤ j) fun j hj => .inr hj).put (d := k + 2) (by omega) z5 (.pointer (some ⟨b, i * sz, none⟩))
  have e6 : gt (a4.put (some (k + 2)) (.pointer (some ⟨b, i * sz, none⟩))) (k + 2) = .pointer (some ⟨b, i * sz, none⟩) := by rw [gt_put z5, if_pos rfl]
  generalize a4.put (some (k + 2)) (.pointer (some ⟨b, i * sz, none⟩)) = a6 at g6 e6
  have st6 : SA X a6 w ds := st1.act g6 (by omega) (by omega) (by omega)
  have f6 : Ag (Cw X.M0 (k + 1) m) a a6 := f1.trans (g6.mono fun j hj => by unfold Cw; omega)
  exact hbody _ a6 st6 e6 Q fun a' w' p1 p2 p3 => hQ a' w' (f6.trans (p1.cw (by omega) (by omega))) p2 p3

/-- The whole code of a list. -/
theorem arr_writes {T i o TS eb s k m b off lo hi bt : Nat} {zs : List Value} {l : AL} {em : M} {nr : Bool} {el : Code → Code} {c1 c2 c3 : Code} {x : Val} {a : Act} {w : World} {ds : List UInt8} (hl : l.ok X.P X.G.u8 X.fx) (hf : FieldAt X.P T i o TS 1) (hS : Sl X.P TS zs.length eb zs) (hst : SA X a w ds)
    (hs : gt a s = .pointer (some ⟨b, off, none⟩)) (hH : Holds X.D (.arr (l.c X.flex) l.nl nr zs.length em) w lo hi b (off + o) x) (hw : wf (M.arr (l.c X.flex) l.nl nr zs.length em).w x) (hbB : b < X.base) (hhi : hi ≤ X.base) (hD : X.D < X.base) (h6 : X.fs < k) (hsk : s < k) (h1s : s ≠ 1) (hk : k + 3 ≤ X.M0) (hm : X.M0 ≤ m) (hN : m + 4 + l.t + 5 + bt ≤ X.N)
    (hlen : ds.length + (enc (M.arr (l.c X.flex) l.nl nr zs.length em).w x).length + 16 ≤ lim2)
    (hnr : nr = true → l.vok X.ver)
    (hbody : ∀ c a1 w1 ds1 A cap n i v lo1, Holds X.D em w1 (lo1 : Nat × Nat).1 lo1.2 A (i * zs.length) v → wf em.w v → SA X a1 w1 ds1 → gt a1 k = .slice (some ⟨A, 0, none⟩) n cap → gt a1 (m + 4 + l.t + 2) = .int .i64 (i : Nat) → i < n → A < X.base → lo ≤ A → lo1.2 ≤ X.base → ds1.length + (enc em.w v).length + 16 ≤ lim2 → Writes X (el c) (enc em.w v) (k + 1) (m + 4 + l.t + 4) a1 w1 ds1) :
    Writes X (.seq (gLoad T i TS s k m c1) (.seq (gALen X.G TS k (m + 4) l c2) (gRange X.G TS k (m + 4 + l.t) bt el c3))) (enc (M.arr (l.c X.flex) l.nl nr zs.length em).w x) k m a w ds := by
  have hfs := X.fs_le
  intro Q hQ
  have hsz := hst.size
  have hT : ∃ e, X.P.underlying TS = some (.slice e) := by obtain ⟨E, hE, _⟩ := hS.ex; exact ⟨E, hE⟩
  obtain ⟨hle, cs, hcs, hL⟩ := hH
  -- what the list is
  have main : ∀ (p : Option Addr) (vs : List Val) (cap : Nat), cs = [.slice p vs.length cap] → enc (M.arr (l.c X.flex) l.nl nr zs.length em).w x = cntEnc (l.c X.flex) 4 (if l.nl && p.isNone then none else some vs.length) ++ ((vs.map (enc em.w)).flatten) → vs.length ≤ 2147483646 → (p.isNone = true → l.vok X.ver) →
      (∀ i v, vs[i]? = some v → ∃ A, p = some ⟨A, 0, none⟩ ∧ A < X.base ∧ lo ≤ A ∧ wf em.w v ∧ ∃ lh : Nat × Nat, A < lh.1 ∧ lh.2 ≤ hi ∧ Holds X.D em w lh.1 lh.2 A (i * zs.length) v) →
      (Code.seq (gLoad T i TS s k m c1) (.seq (gALen X.G TS k (m + 4) l c2) (gRange X.G TS k (m + 4 + l.t) bt el c3))).wp X.P Q a w := by
    intro p vs cap hcsv henc hvl hnv hels
    subst hcsv
    rw [henc, List.length_append] at hlen
    refine wp_seq (gLoad_wp hs hf hS.one (by simpa using hcs 0 _ rfl) (by omega) (by omega) fun a1 g1 v1 => ?_)
    have st1 : SA X a1 w ds := hst.act g1 (by omega) (by omega) (by omega)
    have f1 : Ag (Cw X.M0 k m) a a1 := g1.mono fun j hj => by unfold Cw; omega
    refine wp_seq (gALen_wp (k0 := k + 1) (m0 := m) l hT hl hnv st1 (Ag.refl _ _) v1 hvl (by omega) (by omega) (by omega) (by omega) (by omega) (by omega) (by omega) fun a2 w2 g2 o2 st2 => ?_)
    have k2 : gt a2 k = .slice p vs.length cap := (g2.keep k (by unfold Cw; omega)).trans v1
    refine range_wp (em := em) hT st2 k2 (by omega) (by omega) (by omega) (by omega) (by omega) (by rw [List.length_append]; omega) (fun c a3 w3 ds3 i v hv st3 q1 q2 q3 q4 Q3 hQ3 => ?_) fun a3 w3 g3 o3 st3 => ?_
    · obtain ⟨A, hp, hA, hA2, hwv, lh, b1, b2, b3⟩ := hels i v hv
      have o13 : Only (fun j => X.base ≤ j) w w3 := o2.trans q3
      have hb0 := hst.base
      have hH3 : Holds X.D em w3 lh.1 lh.2 A (i * zs.length) v := b3.keep (o13.block _ (by omega) (by omega)) (fun q q1 q2 => o13.block q (by omega) (by omega)) fun _ _ => World.cell?_of_block (w := w) (o13.block A (by omega) (by omega))
      exact hbody c a3 w3 ds3 A cap vs.length i v lh hH3 hwv st3 (by rw [q2.keep k (by unfold Cw; omega), k2, hp]) q1 (List.getElem?_eq_some_iff.1 hv).1 hA hA2 (by omega) q4 Q3 hQ3
    · refine hQ a3 w3 ((f1.trans (g2.cw (by omega) (by omega))).trans (g3.cw (by omega) (by omega))) (o2.trans o3) ?_
      rw [henc, ← List.append_assoc]; exact st3
  rcases hL with ⟨hnl, rfl, rfl⟩ | ⟨hnl, rfl, rfl⟩ | ⟨vs, A, cap, rfl, rfl, hA1, hA2, f, hf2⟩
  · simp only [M.w, wf] at hw
    refine main none [] 0 rfl ?_ (by simp) (fun _ => hnr hw.2) (fun i v hv => by simp at hv)
    simp [enc, M.w, hnl]
  · refine main none [] 0 rfl ?_ (by simp) (fun _ => ?_) (fun i v hv => by simp at hv)
    · simp [enc, M.w, hnl]
    · cases l with
      | ver cv a b c d => cases hnl
      | _ => trivial
  · simp only [M.w, wf] at hw
    refine main (some ⟨A, 0, none⟩) vs cap rfl ?_ hw.1 (fun h => by cases h) fun i v hv => ⟨A, rfl, by omega, hA1, hw.2 v (List.mem_iff_getElem?.2 ⟨i, hv⟩), f i, hf2 i v hv⟩
    simp [enc, M.w]
end
end Go.Proofs.YtpefipjgcpchaaaGreatDoorR.Kf

namespace Go.Proofs.YtpefipjgcpchaaaGreatDoorR.Kf
set_option linter.unusedVariables false
set_option linter.unusedSimpArgs false
open Go Go.RowKit

section
variable {X : AX}

/-- The types that the code names are what they must be. -/
structure AOk (X : AX) : Prop where
  int : X.P.underlying X.G.int = some (.int .i64)
  u32 : X.P.underlying X.G.u32 = some (.int .u32)
  N0 : 7 ≤ X.M0

structure AtW (X : AX) (r : A) (mm : M) (s k m b off lo hi : Nat) (a : Act) (w : World) (ds : List UInt8) (x : Val) : Prop where
  st : SA X a w ds
  sp : gt a s = .pointer (some ⟨b, off, none⟩)
  hold : Holds X.D mm w lo hi b off x
  wf : wf mm.w x
  len : ds.length + (enc mm.w x).length + 16 ≤ lim2
  bB : b < X.base
  hiB : hi ≤ X.base
  loB : X.q = false → X.base ≤ lo
  nD : X.D < X.base
  s1 : s ≠ 1
  k6 : X.fs < k
  sk : s < k
  kM : k + r.k ≤ X.M0
  m0 : X.M0 ≤ m
  mN : m + r.t ≤ X.N

theorem AtW.next {r r2 : A} {o : Nat} {mF mR : M} {s k m b off lo hi k2 m2 : Nat} {a a1 : Act} {w w1 : World} {ds : List UInt8} {y z : Val} {mid : Nat} (h : AtW X r (.fld o mF mR) s k m b off lo hi a w ds (.pair y z)) (hy : Holds X.D mF w lo mid b (off + o) y) (hz : Holds X.D mR w mid hi b off z)
    (ha : Ag (Cw X.M0 k m) a a1) (hw : Only (fun j => X.base ≤ j) w w1) (hst : SA X a1 w1 (ds ++ enc mF.w y)) (hk : k ≤ k2) (hkM : k2 + r2.k ≤ X.M0) (hm : m ≤ m2) (hmN : m2 + r2.t ≤ X.N) : AtW X r2 mR s k2 m2 b off mid hi a1 w1 (ds ++ enc mF.w y) z := by
  have hfs := X.fs_le
  have h1 := h.sk
  have h2 := h.m0
  have h3 := h.kM
  have h4 := h.k6
  have h5 := h.len
  have h6 := h.bB
  have h7 := h.hiB
  have h8 := h.nD
  have h9 := h.st.base
  have h10 := h.s1
  simp only [M.w, enc, List.length_append] at h5
  exact ⟨hst, (ha.keep s (by unfold Cw; omega)).trans h.sp, hz.keep (hw.block _ (by omega) (by omega)) (fun q q1 q2 => hw.block q (by omega) (by omega)) (fun _ _ => World.cell?_of_block (w := w) (hw.block b (by omega) (by omega))), h.wf.2, by rw [List.length_append]; omega, h6, h7, fun hq => Nat.le_trans (h.loB hq) hy.le, h8, h.s1, by omega, by omega, hkM, by omega, hmN⟩

/-- A field that the version has, and what follows. -/
theorem A_step {F g : Code → Code} {last : Bool} {tail : Option (Code → Code)} {r r2 : A} {mF mR : M} {o s k m k2 m2 b off lo hi : Nat} {a : Act} {w : World} {ds : List UInt8} {x : Val} {c : Code} (h : AtW X r (.fld o mF mR) s k m b off lo hi a w ds x) (hk : k ≤ k2) (hkM : k2 + r2.k ≤ X.M0) (hm : m ≤ m2) (hmN : m2 + r2.t ≤ X.N)
    (hF : ∀ c lo1 hi1 y, Holds X.D mF w lo1 hi1 b (off + o) y → wf mF.w y → hi1 ≤ X.base → (X.q = false → X.base ≤ lo1) → ds.length + (enc mF.w y).length + 16 ≤ lim2 → Writes X (F c) (enc mF.w y) k m a w ds)
    (hlast : last = true → tail = none ∧ mR = .unit)
    (hR : last = false → ∀ c a1 w1 ds1 lo1 y, AtW X r2 mR s k2 m2 b off lo1 hi a1 w1 ds1 y → ∀ Q, (∀ a' w', Ag (Cw X.M0 k2 m2) a1 a' → Only (fun j => X.base ≤ j) w1 w' → SA X a' w' (ds1 ++ enc mR.w y) → tq X.P tail Q .normal a' w') → (g c).wp X.P Q a1 w1)
    {Q : Exit → Act → World → Prop} (hQ : ∀ a' w', Ag (Cw X.M0 k m) a a' → Only (fun j => X.base ≤ j) w w' → SA X a' w' (ds ++ enc (M.fld o mF mR).w x) → tq X.P tail Q .normal a' w') : (join F last g c).wp X.P Q a w := by
  have hfs := X.fs_le
  obtain ⟨mid, y, z, rfl, hy, hz⟩ := h.hold
  have hzle := hz.le
  have hhi := h.hiB
  have hlen := h.len
  simp only [M.w, enc, List.length_append] at hlen
  cases hl : last with
  | true =>
    obtain ⟨rfl, rfl⟩ := hlast hl
    rw [join_last]
    obtain ⟨rfl, _⟩ := hz
    refine hF c lo mid y hy h.wf.1 (by omega) h.loB (by omega) Q fun a1 w1 p1 p2 p3 => hQ a1 w1 p1 p2 ?_
    simpa [M.w, enc] using p3
  | false =>
    rw [join_more]
    refine wp_seq (hF _ lo mid y hy h.wf.1 (by omega) h.loB (by omega) _ fun a1 w1 p1 p2 p3 => ?_)
    refine hR hl _ a1 w1 _ mid z (h.next hy hz p1 p2 p3 hk hkM hm hmN) Q fun a2 w2 q1 q2 q3 => hQ a2 w2 (p1.trans (q1.cw hk hm)) (p2.trans q2) ?_
    simpa [M.w, enc, List.append_assoc] using q3

/-- A field that the version has not. -/
theorem A_skip {F g : Code → Code} {last : Bool} {tail : Option (Code → Code)} {r r2 : A} {mR : M} {s k m k2 m2 b off lo hi : Nat} {a : Act} {w : World} {ds : List UInt8} {x : Val} {c : Code} (h : AtW X r mR s k m b off lo hi a w ds x) (hk : k ≤ k2) (hkM : k2 + r2.k ≤ X.M0) (hm : m ≤ m2) (hmN : m2 + r2.t ≤ X.N)
    (hF : ∀ c Q, (∀ a1, Ag (Tm m) a a1 → Q .normal a1 w) → (F c).wp X.P Q a w)
    (hlast : last = true → tail = none ∧ mR = .unit)
    (hR : last = false → ∀ c a1 w1 ds1 lo1 y, AtW X r2 mR s k2 m2 b off lo1 hi a1 w1 ds1 y → ∀ Q, (∀ a' w', Ag (Cw X.M0 k2 m2) a1 a' → Only (fun j => X.base ≤ j) w1 w' → SA X a' w' (ds1 ++ enc mR.w y) → tq X.P tail Q .normal a' w') → (g c).wp X.P Q a1 w1)
    {Q : Exit → Act → World → Prop} (hQ : ∀ a' w', Ag (Cw X.M0 k m) a a' → Only (fun j => X.base ≤ j) w w' → SA X a' w' (ds ++ enc mR.w x) → tq X.P tail Q .normal a' w') : (join F last g c).wp X.P Q a w := by
  have hfs := X.fs_le
  have h1 := h.sk
  have h2 := h.m0
  have h3 := h.kM
  have h4 := h.k6
  have h10 := h.s1
  have st1 : ∀ a1, Ag (Tm m) a a1 → SA X a1 w ds := fun a1 ha => h.st.act ha (by unfold Tm; omega) (by unfold Tm; omega) (by unfold Tm; omega)
  have ag1 : ∀ a1, Ag (Tm m) a a1 → Ag (Cw X.M0 k m) a a1 := fun a1 ha => ha.mono fun j hj => by unfold Tm at hj; unfold Cw; omega
  cases hl : last with
  | true =>
    obtain ⟨rfl, rfl⟩ := hlast hl
    rw [join_last]
    refine hF c Q fun a1 p1 => hQ a1 w (ag1 a1 p1) (Only.refl _ _) ?_
    have := st1 a1 p1
    simpa [M.w, enc] using this
  | false =>
    rw [join_more]
    refine wp_seq (hF _ _ fun a1 p1 => ?_)
    refine hR hl _ a1 w ds lo x ⟨st1 a1 p1, (p1.keep s (by unfold Tm; omega)).trans h.sp, h.hold, h.wf, h.len, h.bB, h.hiB, h.loB, h.nD, h.s1, by omega, by omega, hkM, by omega, hmN⟩ Q fun a2 w2 q1 q2 q3 => hQ a2 w2 ((ag1 a1 p1).trans (q1.cw hk hm)) q2 q3

theorem A.isDone_eq {r : A} (h : r.isDone = true) : r = .done := by cases r <;> first | rfl | cases h

theorem gCond_writes {cd : Cond} {k m : Nat} {body : Code → Code} {bs : List UInt8} {a : Act} {w : World} {ds : List UInt8} (hst : SA X a w ds) (h6 : 6 < m) (hM : X.M0 ≤ m) (hN : m + cd.t ≤ X.N) (hc : cd.holds X.ver = true)
    (h : ∀ c a', Ag (fun j => m ≤ j ∧ j < m + cd.t) a a' → SA X a' w ds → Writes X (body c) bs k (m + cd.t) a' w ds) {c0 : Code} : Writes X (gCond X.G.i16 5 m body cd c0) bs k m a w ds := by
  have hfs := X.fs_le
  intro Q hQ
  refine gCond_wp hst.ver (by omega) (by rw [hst.size]; exact hN) (fun _ c a' ha => ?_) fun hno => by rw [hc] at hno; cases hno
  have st' : SA X a' w ds := hst.act ha (by omega) (by omega) (by omega)
  exact h c a' ha st' Q fun a2 w2 p1 p2 p3 => hQ a2 w2 ((ha.mono fun j hj => by unfold Cw; omega : Ag (Cw X.M0 k m) a a').trans (p1.cw (Nat.le_refl _) (by omega))) p2 p3

theorem gCond_none {cd : Cond} {m : Nat} {body : Code → Code} {a : Act} {w : World} {ds : List UInt8} (hst : SA X a w ds) (h6 : 6 < m) (hN : m + cd.t ≤ X.N) (hc : cd.holds X.ver = false) {c : Code} {Q : Exit → Act → World → Prop} (h : ∀ a1, Ag (Tm m) a a1 → Q .normal a1 w) : (gCond X.G.i16 5 m body cd c).wp X.P Q a w :=
  gCond_wp hst.ver (by omega) (by rw [hst.size]; exact hN) (fun hy => by rw [hc] at hy; cases hy) fun _ a' ha => h a' (ha.mono fun j hj => by unfold Tm; omega)

theorem AL.fit_vok {l : AL} {n : Option Int} {v : Int} (h : l.fit n) (hn : nullR v n = true) : l.vok v := by
  cases l with
  | ver cv a b c d =>
    simp only [AL.fit] at h
    subst h
    simpa [nullR, AL.vok] using hn
  | _ => trivial
/-- THE THEOREM. -/
theorem A_writes (hX : AOk X) : ∀ (r : A) (T s k m b off lo hi : Nat) (tail : Option (Code → Code)) (c0 : Code) (a : Act) (w : World) (ds : List UInt8) (x : Val), r.ok X.P X.G.u8 X.q X.fx T → AtW X r (r.m X.ver X.flex) s k m b off lo hi a w ds x →
    ∀ Q, (∀ a' w', Ag (Cw X.M0 k m) a a' → Only (fun j => X.base ≤ j) w w' → SA X a' w' (ds ++ enc (r.m X.ver X.flex).w x) → tq X.P tail Q .normal a' w') → (gA X.G r T s k m tail c0).wp X.P Q a w := by
  have hfs := X.fs_le
  intro r
  induction r with
  | done =>
    intro T s k m b off lo hi tail c0 a w ds x hr hA Q hQ
    obtain ⟨rfl, _⟩ := hA.hold
    have := hQ a w (Ag.refl _ _) (Only.refl _ _) (by simpa [A.m, M.w, enc] using hA.st)
    cases tail with
    | none => exact wp_skip this
    | some t => exact this c0
  | val c i o u v r ih =>
    intro T s k m b off lo hi tail c0 a w ds x hr hA Q hQ
    obtain ⟨h2, h3, h4⟩ := hr
    have hk := hA.kM
    have hm := hA.mN
    have hm0 := hA.m0
    have hk6 := hA.k6
    have hsk := hA.sk
    have hs1 := hA.s1
    have hM := hX.N0
    simp only [A.k] at hk
    have hkn := v.kn_pos
    simp only [A.t] at hm
    have hlast : (r.isDone && tail.isNone) = true → tail = none ∧ r.m X.ver X.flex = .unit := by
      intro h
      rw [Bool.and_eq_true] at h
      rw [A.isDone_eq h.1]
      exact ⟨Option.isNone_iff_eq_none.1 h.2, rfl⟩
    simp only [A.m] at hQ hA
    cases hc : c.holds X.ver with
    | true =>
      rw [hc, if_pos rfl] at hQ hA
      refine A_step (r2 := r) (k2 := k + v.kn) (m2 := m + (c.t + (4 + v.t))) hA (by omega) (by omega) (by omega) (by omega) (fun c1 lo1 hi1 y hy hw hhi hlo hl => gCond_writes hA.st (by omega) hm0 (by omega) hc fun c2 a' ha st' Q2 hQ2 => ?_) hlast (fun _ c1 a1 w1 ds1 lo1 y hA1 Q1 hQ1 => ih T s (k + v.kn) _ b off lo1 hi tail c1 a1 w1 ds1 y h4 hA1 Q1 hQ1) hQ
      obtain ⟨cs, hc1, hc2⟩ := RK.of_holds hy
      have s' : gt a' s = .pointer (some ⟨b, off, none⟩) := (ha.keep s (by omega)).trans hA.sp
      have sz' := st'.size
      refine wp_seq (gLoadX_wp s' (h3 X.flex).1 (h3 X.flex).2 (RK.leaf_len hc2) hc1 (by omega) (by omega) (AV.box h2 X.flex) (fun hb => RK.leaf_one hc2 (AV.boxed hb _)) fun a2 w2 g2 ho v2 => ?_)
      have st2 : SA X a2 w2 ds := (st'.act g2 (by omega) (by omega) (by omega)).world ho
      have hc3 : (v.rk X.flex).leaf X.D w2 lo1 hi1 cs y := RK.leaf_keep hc2 (ho.block _ (by have := hA.nD; have := st'.base; omega) id) fun q q1 q2 => ho.block q (by have := st'.base; omega) id
      have f2 : Ag (Cw X.M0 k (m + c.t)) a' a2 := g2.mono fun j hj => by unfold Cw; omega
      exact gAV_wp v h2 st2 f2 v2 (RK.leaf_len hc2) hc3 hw (by omega) hk6 (by omega) (by omega) (by omega) (by omega) (by omega) (Nat.le_refl _) (by omega) (by omega) fun a' w' p1 p2 p3 => hQ2 a' w' p1 ((ho.none _).trans p2) p3
    | false =>
      rw [hc, if_neg (by decide)] at hQ hA
      exact A_skip (r2 := r) (k2 := k + v.kn) (m2 := m + (c.t + (4 + v.t))) hA (by omega) (by omega) (by omega) (by omega) (fun c1 Q1 h => gCond_none hA.st (by omega) (by omega) hc h) hlast (fun _ c1 a1 w1 ds1 lo1 y hA1 Q1 hQ1 => ih T s (k + v.kn) _ b off lo1 hi tail c1 a1 w1 ds1 y h4 hA1 Q1 hQ1) hQ
  | arrV c i o TS eb zs n l u v r ih =>
    intro T s k m b off lo hi tail c0 a w ds x hr hA Q hQ
    obtain ⟨hnl, h1, h2, h3, h4, h5, h6⟩ := hr
    have hk := hA.kM
    have hm := hA.mN
    have hm0 := hA.m0
    have hk6 := hA.k6
    have hsk := hA.sk
    have hs1 := hA.s1
    have hM := hX.N0
    simp only [A.k] at hk
    have hkn := v.kn_pos
    simp only [A.t] at hm
    have hlast : (r.isDone && tail.isNone) = true → tail = none ∧ r.m X.ver X.flex = .unit := by
      intro h
      rw [Bool.and_eq_true] at h
      rw [A.isDone_eq h.1]
      exact ⟨Option.isNone_iff_eq_none.1 h.2, rfl⟩
    simp only [A.m] at hQ hA
    cases hc : c.holds X.ver with
    | true =>
      rw [hc, if_pos rfl] at hQ hA
      refine A_step (r2 := r) (k2 := k + (2 + v.kn)) (m2 := m + (c.t + (4 + l.t + 5 + (5 + v.t)))) hA (by omega) (by omega) (by omega) (by omega) (fun c1 lo1 hi1 y hy hw hhi hlo hl => gCond_writes hA.st (by omega) hm0 (by omega) hc fun c2 a' ha st' => ?_) hlast (fun _ c1 a1 w1 ds1 lo1 y hA1 Q1 hQ1 => ih T s (k + (2 + v.kn)) _ b off lo1 hi tail c1 a1 w1 ds1 y h6 hA1 Q1 hQ1) hQ
      rw [← AL.fit_nl hnl] at hy hw hl ⊢
      refine arr_writes h1 h2 h3 st' ((ha.keep s (by omega)).trans hA.sp) hy hw hA.bB hhi hA.nD hk6 hsk hs1 (by omega) (by omega) (by omega) hl (AL.fit_vok hnl) ?_
      intro c3 a3 w3 ds3 A3 cap n3 i3 v3 lh q1 q2 q3 q4 q5 q6 q7 qa q8 q9
      exact gElV_writes v h3 h4 (h5 X.flex).2 (h5 X.flex).1 q3 q4 q5 q6 q1 q2 hk6 (by omega) (by omega) (by omega) (by omega) (by omega) q8 (by omega)
    | false =>
      rw [hc, if_neg (by decide)] at hQ hA
      exact A_skip (r2 := r) (k2 := k + (2 + v.kn)) (m2 := m + (c.t + (4 + l.t + 5 + (5 + v.t)))) hA (by omega) (by omega) (by omega) (by omega) (fun c1 Q1 h => gCond_none hA.st (by omega) (by omega) hc h) hlast (fun _ c1 a1 w1 ds1 lo1 y hA1 Q1 hQ1 => ih T s (k + (2 + v.kn)) _ b off lo1 hi tail c1 a1 w1 ds1 y h6 hA1 Q1 hQ1) hQ
  | arrS c i o TS eb zs n l T' b' r ihb ih =>
    intro T s k m b off lo hi tail c0 a w ds x hr hA Q hQ
    obtain ⟨hnl, h1, h2, h3, h4, h6⟩ := hr
    have hk := hA.kM
    have hm := hA.mN
    have hm0 := hA.m0
    have hk6 := hA.k6
    have hsk := hA.sk
    have hs1 := hA.s1
    have hM := hX.N0
    simp only [A.k] at hk
    simp only [A.t] at hm
    have hlast : (r.isDone && tail.isNone) = true → tail = none ∧ r.m X.ver X.flex = .unit := by
      intro h
      rw [Bool.and_eq_true] at h
      rw [A.isDone_eq h.1]
      exact ⟨Option.isNone_iff_eq_none.1 h.2, rfl⟩
    simp only [A.m] at hQ hA
    cases hc : c.holds X.ver with
    | true =>
      rw [hc, if_pos rfl] at hQ hA
      refine A_step (r2 := r) (k2 := k + (3 + b'.k)) (m2 := m + (c.t + (4 + l.t + 5 + (4 + b'.t)))) hA (by omega) (by omega) (by omega) (by omega) (fun c1 lo1 hi1 y hy hw hhi hlo hl => gCond_writes hA.st (by omega) hm0 (by omega) hc fun c2 a' ha st' => ?_) hlast (fun _ c1 a1 w1 ds1 lo1 y hA1 Q1 hQ1 => ih T s (k + (3 + b'.k)) _ b off lo1 hi tail c1 a1 w1 ds1 y h6 hA1 Q1 hQ1) hQ
      rw [← AL.fit_nl hnl] at hy hw hl ⊢
      refine arr_writes h1 h2 h3 st' ((ha.keep s (by omega)).trans hA.sp) hy hw hA.bB hhi hA.nD hk6 hsk hs1 (by omega) (by omega) (by omega) hl (AL.fit_vok hnl) ?_
      intro c3 a3 w3 ds3 A3 cap n3 i3 v3 lh q1 q2 q3 q4 q5 q6 q7 qa q8 q9
      refine gElS_writes h3 q3 q4 q5 q6 hk6 (by omega) (by omega) (by omega) (by omega) (by omega) fun c4 a4 st4 s4 Q4 hQ4 => ?_
      exact ihb T' (k + 2) (k + 3) (m + c.t + 4 + l.t + 4 + 4) A3 (i3 * zs.length) lh.1 lh.2 none c4 a4 w3 ds3 v3 h4 ⟨st4, s4, q1, q2, q9, q7, q8, fun hq => by have := hlo hq; omega, hA.nD, by omega, by omega, by omega, by omega, by omega, by omega⟩ Q4 hQ4
    | false =>
      rw [hc, if_neg (by decide)] at hQ hA
      exact A_skip (r2 := r) (k2 := k + (3 + b'.k)) (m2 := m + (c.t + (4 + l.t + 5 + (4 + b'.t)))) hA (by omega) (by omega) (by omega) (by omega) (fun c1 Q1 h => gCond_none hA.st (by omega) (by omega) hc h) hlast (fun _ c1 a1 w1 ds1 lo1 y hA1 Q1 hQ1 => ih T s (k + (3 + b'.k)) _ b off lo1 hi tail c1 a1 w1 ds1 y h6 hA1 Q1 hQ1) hQ
  | optS c i o PT sl T' sz b' r ihb ih =>
    intro T s k m b off lo hi tail c0 a w ds x hr hA Q hQ
    obtain ⟨h1, h2, h3, h4, h5, h6⟩ := hr
    have hk := hA.kM
    have hm := hA.mN
    have hm0 := hA.m0
    have hk6 := hA.k6
    have hsk := hA.sk
    have hs1 := hA.s1
    have hM := hX.N0
    simp only [A.k] at hk
    simp only [A.t] at hm
    have hlast : (r.isDone && tail.isNone) = true → tail = none ∧ r.m X.ver X.flex = .unit := by
      intro h
      rw [Bool.and_eq_true] at h
      rw [A.isDone_eq h.1]
      exact ⟨Option.isNone_iff_eq_none.1 h.2, rfl⟩
    simp only [A.m] at hQ hA
    cases hc : c.holds X.ver with
    | true =>
      rw [hc, if_pos rfl] at hQ hA
      refine A_step (r2 := r) (k2 := k + (1 + b'.k)) (m2 := m + (c.t + (12 + b'.t))) hA (by omega) (by omega) (by omega) (by omega) (fun c1 lo1 hi1 y hy hw hhi hlo hl => gCond_writes hA.st (by omega) hm0 (by omega) hc fun c2 a' ha st' Q2 hQ2 => ?_) hlast (fun _ c1 a1 w1 ds1 lo1 y hA1 Q1 hQ1 => ih T s (k + (1 + b'.k)) _ b off lo1 hi tail c1 a1 w1 ds1 y h6 hA1 Q1 hQ1) hQ
      obtain ⟨hle, cs, hc1, hop⟩ := hy
      have s' : gt a' s = .pointer (some ⟨b, off, none⟩) := (ha.keep s (by omega)).trans hA.sp
      have sz' := st'.size
      obtain ⟨p, hcs⟩ : ∃ p, cs = [.pointer p] := by rcases hop with ⟨_, rfl⟩ | ⟨_, q, _, rfl, _⟩ <;> exact ⟨_, rfl⟩
      have hcell : w.cell? ⟨b, off + o, none⟩ = some (.pointer p) := by have := hc1 0 (.pointer p) (by rw [hcs]; rfl); simpa using this
      refine wp_seq (gLoad_wp s' h1 h2 hcell (by omega) (by omega) fun a2 g2 v2 => ?_)
      have st2 : SA X a2 w ds := st'.act g2 (by omega) (by omega) (by omega)
      have f2 : Ag (Cw X.M0 k (m + c.t)) a' a2 := g2.mono fun j hj => by unfold Cw; omega
      refine wp_seq (gIsNil_wp h3 v2 (by omega) (by rw [g2.size]; omega) fun a3 g3 v3 => ?_)
      have st3 : SA X a3 w ds := st2.act g3 (by omega) (by omega) (by omega)
      have f3 : Ag (Cw X.M0 k (m + c.t)) a' a3 := f2.trans (g3.mono fun j hj => by unfold Cw; omega)
      have e3 : gt a3 k = .pointer p := (g3.keep k (by omega)).trans v2
      rcases hop with ⟨rfl, rfl⟩ | ⟨v, q, rfl, rfl, hq1, hq2, hH⟩
      · obtain rfl : p = none := by simpa using hcs.symm
        refine wp_cond_true v3 (gByte_wp (b := 255) h4 rfl st3 f3 (by simp only [M.w, enc, List.length_singleton] at hl; omega) hk6 (by omega) (by omega) (by omega) hQ2)
      · obtain rfl : p = some ⟨q, 0, none⟩ := by simpa using hcs.symm
        simp only [M.w, enc, List.length_cons] at hl
        have hw' : wf (b'.m X.ver X.flex).w v := hw
        refine wp_cond_false v3 (wp_seq (gByte_wp (b := 1) (k0 := k + 1) (m0 := m + c.t) h4 rfl st3 (Ag.refl _ _) (by omega) (by omega) (by omega) (by omega) (by omega) fun a4 w4 g4 o4 st4 => ?_))
        have f4 : Ag (Cw X.M0 k (m + c.t)) a' a4 := f3.trans (g4.cw (by omega) (Nat.le_refl _))
        have hbs := st3.base
        have k4 : ∀ j, j < X.base → w4.heap[j]? = w.heap[j]? := fun j hj => o4.block j (by omega) (by omega)
        have e4 : gt a4 k = .pointer (some ⟨q, 0, none⟩) := (g4.keep k (by unfold Cw; omega)).trans e3
        exact ihb T' k (k + 1) (m + c.t + 12) q 0 (q + 1) hi1 none _ a4 w4 (ds ++ [1]) v h5 ⟨st4, e4, hH.keep (k4 _ (by have := hA.nD; omega)) (fun j h1 h2 => k4 j (by omega)) (fun j hj => World.cell?_of_block (k4 q (by omega))), hw', by simp only [List.length_append, List.length_singleton]; omega, by omega, by omega, fun hq => by have := hlo hq; omega, hA.nD, by omega, by omega, by omega, by omega, by omega, by omega⟩ Q2 fun a5 w5 p1 p2 p3 => hQ2 a5 w5 (f4.trans (p1.cw (by omega) (by omega))) (o4.trans p2) (by simpa [M.w, enc] using p3)
    | false =>
      rw [hc, if_neg (by decide)] at hQ hA
      exact A_skip (r2 := r) (k2 := k + (1 + b'.k)) (m2 := m + (c.t + (12 + b'.t))) hA (by omega) (by omega) (by omega) (by omega) (fun c1 Q1 h => gCond_none hA.st (by omega) (by omega) hc h) hlast (fun _ c1 a1 w1 ds1 lo1 y hA1 Q1 hQ1 => ih T s (k + (1 + b'.k)) _ b off lo1 hi tail c1 a1 w1 ds1 y h6 hA1 Q1 hQ1) hQ
  | inl c i o u n T' b' r ihb ih =>
    intro T s k m b off lo hi tail c0 a w ds x hr hA Q hQ
    obtain ⟨h1, h5, h6⟩ := hr
    have hk := hA.kM
    have hm := hA.mN
    have hm0 := hA.m0
    have hk6 := hA.k6
    have hsk := hA.sk
    have hs1 := hA.s1
    have hM := hX.N0
    simp only [A.k] at hk
    simp only [A.t] at hm
    have hlast : (r.isDone && tail.isNone) = true → tail = none ∧ r.m X.ver X.flex = .unit := by
      intro h
      rw [Bool.and_eq_true] at h
      rw [A.isDone_eq h.1]
      exact ⟨Option.isNone_iff_eq_none.1 h.2, rfl⟩
    simp only [A.m] at hQ hA
    cases hc : c.holds X.ver with
    | true =>
      rw [hc, if_pos rfl] at hQ hA
      refine A_step (r2 := r) (k2 := k + (1 + b'.k)) (m2 := m + (c.t + (3 + b'.t))) hA (by omega) (by omega) (by omega) (by omega) (fun c1 lo1 hi1 y hy hw hhi hlo hl => gCond_writes hA.st (by omega) hm0 (by omega) hc fun c2 a' ha st' Q2 hQ2 => ?_) hlast (fun _ c1 a1 w1 ds1 lo1 y hA1 Q1 hQ1 => ih T s (k + (1 + b'.k)) _ b off lo1 hi tail c1 a1 w1 ds1 y h6 hA1 Q1 hQ1) hQ
      have s' : gt a' s = .pointer (some ⟨b, off, none⟩) := (ha.keep s (by omega)).trans hA.sp
      have sz' := st'.size
      refine wp_seq (gAdr_wp s' h1 (by omega) (by omega) fun a2 g2 v2 => ?_)
      have st2 : SA X a2 w ds := st'.act g2 (by omega) (by omega) (by omega)
      have f2 : Ag (Cw X.M0 k (m + c.t)) a' a2 := g2.mono fun j hj => by unfold Cw; omega
      exact ihb T' k (k + 1) (m + c.t + 3) b (off + o) lo1 hi1 none _ a2 w ds y h5 ⟨st2, v2, hy, hw, hl, hA.bB, hhi, hlo, hA.nD, by omega, by omega, by omega, by omega, by omega, by omega⟩ Q2 fun a5 w5 p1 p2 p3 => hQ2 a5 w5 (f2.trans (p1.cw (by omega) (by omega))) p2 p3
    | false =>
      rw [hc, if_neg (by decide)] at hQ hA
      exact A_skip (r2 := r) (k2 := k + (1 + b'.k)) (m2 := m + (c.t + (3 + b'.t))) hA (by omega) (by omega) (by omega) (by omega) (fun c1 Q1 h => gCond_none hA.st (by omega) (by omega) hc h) hlast (fun _ c1 a1 w1 ds1 lo1 y hA1 Q1 hQ1 => ih T s (k + (1 + b'.k)) _ b off lo1 hi tail c1 a1 w1 ds1 y h6 hA1 Q1 hQ1) hQ
  | vv c i o PT st cv Fc Fp Gc Gp r ih =>
    intro T s k m b off lo hi tail c0 a w ds x hr hA Q hQ
    obtain ⟨h1, h2, h3, h4, h5, h7, h6⟩ := hr
    have hk := hA.kM
    have hm := hA.mN
    have hm0 := hA.m0
    have hk6 := hA.k6
    have hsk := hA.sk
    have hs1 := hA.s1
    have hM := hX.N0
    simp only [A.k] at hk
    simp only [A.t] at hm
    have hlast : (r.isDone && tail.isNone) = true → tail = none ∧ r.m X.ver X.flex = .unit := by
      intro h
      rw [Bool.and_eq_true] at h
      rw [A.isDone_eq h.1]
      exact ⟨Option.isNone_iff_eq_none.1 h.2, rfl⟩
    simp only [A.m] at hQ hA
    cases hc : c.holds X.ver with
    | true =>
      rw [hc, if_pos rfl] at hQ hA
      refine A_step (r2 := r) (k2 := k + 3) (m2 := m + (c.t + 26)) hA (by omega) (by omega) (by omega) (by omega) (fun c1 lo1 hi1 y hy hw hhi hlo hl => gCond_writes hA.st (by omega) hm0 (by omega) hc fun c2 a' ha st' => ?_) hlast (fun _ c1 a1 w1 ds1 lo1 y hA1 Q1 hQ1 => ih T s (k + 3) _ b off lo1 hi tail c1 a1 w1 ds1 y h6 hA1 Q1 hQ1) hQ
      exact gVv_writes h1 h2 h3 h4 h5 h7 st' ((ha.keep s (by omega)).trans hA.sp) hy hw hl hk6 (by omega) (by omega) (by omega) hsk (by omega)
    | false =>
      rw [hc, if_neg (by decide)] at hQ hA
      exact A_skip (r2 := r) (k2 := k + 3) (m2 := m + (c.t + 26)) hA (by omega) (by omega) (by omega) (by omega) (fun c1 Q1 h => gCond_none hA.st (by omega) (by omega) hc h) hlast (fun _ c1 a1 w1 ds1 lo1 y hA1 Q1 hQ1 => ih T s (k + 3) _ b off lo1 hi tail c1 a1 w1 ds1 y h6 hA1 Q1 hQ1) hQ
  | tags i o u FL FU FE r ih =>
    intro T s k m b off lo hi tail c0 a w ds x hr hA Q hQ
    obtain ⟨hfx, h2, h3, h4, h5, h6⟩ := hr
    have hk := hA.kM
    have hm := hA.mN
    have hm0 := hA.m0
    have hk6 := hA.k6
    have hsk := hA.sk
    have hs1 := hA.s1
    have hM := hX.N0
    simp only [A.k] at hk
    simp only [A.t] at hm
    have hlast : (r.isDone && tail.isNone) = true → tail = none ∧ r.m X.ver X.flex = .unit := by
      intro h
      rw [Bool.and_eq_true] at h
      rw [A.isDone_eq h.1]
      exact ⟨Option.isNone_iff_eq_none.1 h.2, rfl⟩
    simp only [A.m] at hQ hA
    by_cases hc : X.flex = true
    · rw [if_pos hc] at hQ hA
      refine A_step (r2 := r) (k2 := k) (m2 := m + 14) hA (by omega) (by omega) (by omega) (by omega) (fun c1 lo1 hi1 y hy hw hhi hlo hl Q2 hQ2 => ?_) hlast (fun _ c1 a1 w1 ds1 lo1 y hA1 Q1 hQ1 => ih T s k _ b off lo1 hi tail c1 a1 w1 ds1 y h6 hA1 Q1 hQ1) hQ
      cases y with
      | tags t => exact gATags_wp hX.int hX.u32 hfx hc h3 h4 h5 hA.st hA.sp h2 hy hw hA.bB hhi hlo hA.nD hk6 hs1 hsk (by omega) hm0 (by omega) hl hQ2
      | _ => exact hw.elim
    · rw [if_neg hc] at hQ hA
      refine A_skip (r2 := r) (k2 := k) (m2 := m + 14) hA (by omega) (by omega) (by omega) (by omega) (fun c1 Q1 h => ?_) hlast (fun _ c1 a1 w1 ds1 lo1 y hA1 Q1 hQ1 => ih T s k _ b off lo1 hi tail c1 a1 w1 ds1 y h6 hA1 Q1 hQ1) hQ
      have z0 : m < a.tmps.size := by rw [hA.st.size]; omega
      exact wp_seq (gMove_wp' z0 (wp_cond_false (by rw [evT, gt_put z0, if_pos rfl, hA.st.fl hfx]; simpa using hc) (wp_skip (h _ ((Ag.refl (Tm m) a).put (d := m) (by unfold Tm; omega) z0 _)))))
end
end Go.Proofs.YtpefipjgcpchaaaGreatDoorR.Kf
