/- Writing, the first part: what the functions that write must do (as hypotheses), and the code that writes one value. -/
import Derived.Test.YtfimokbgggimmaaDoorReadE
namespace Go.Proofs.YtfimokbgggimmaaDoor.Kf
set_option linter.unusedVariables false
set_option linter.unusedSimpArgs false
open Go Go.RowKit

/-- The most octets that are written. -/
def lim2 : Nat := 70368744177664

/-- A slice of the call's own that holds the octets (U: the octets' type; its block lies from base on). -/
def Own (U base : Nat) (w : World) (v : Value) (bs : List UInt8) : Prop := w.ownsRow base U 1 v bs.length (bs.map u8v)

/-- The value that a variable of a leaf's kind holds. -/
def valOf : RK → List Value → Value
  | .prim .uuid, cs => .agg cs.toArray
  | .tags, cs => .agg cs.toArray
  | _, cs => cs.headD undef

/-- The function F writes a value of the kind k behind octets. -/
def AppC (P : Program) (U F : Nat) (k : RK) : Prop := Plain P F ∧ ∀ (D base : Nat) (w : World) (dst : Value) (ds : List UInt8) (lo hi : Nat) (cs : List Value) (x : Val), Own U base w dst ds → k.leaf D w lo hi cs x → wf k.m.w x → D < base →
  base ≤ w.heap.size → ds.length + (enc k.m.w x).length + 16 ≤ lim2 →
  Calls P F #[dst, valOf k cs] w fun e w' => ∃ v, e = .returned v ∧ (Own U base w' v (ds ++ enc k.m.w x) ∧ Only (fun j => base ≤ j) w w')

/-- The function F writes how many things a list has. -/
def ALenC (P : Program) (U F : Nat) (c nl : Bool) : Prop := Plain P F ∧ ∀ (base : Nat) (w : World) (dst : Value) (ds : List UInt8) (n : Nat) (isNil : Bool), Own U base w dst ds → n ≤ 2147483646 → (isNil = true → nl = true) →
  base ≤ w.heap.size → ds.length + 10 ≤ lim2 →
  Calls P F (if nl then #[dst, .int .i64 n, .bool isNil] else #[dst, .int .i64 n]) w fun e w' => ∃ v, e = .returned v ∧ (Own U base w' v (ds ++ cntEnc c 4 (if isNil then none else some n)) ∧ Only (fun j => base ≤ j) w w')

/-- The number of tags, and the function that writes a number in groups, and the one that writes all tags. -/
def TLenC (P : Program) (F : Nat) : Prop := Plain P F ∧ ∀ (D : Nat) (w : World) (b off lo hi : Nat) (cs : List Value) (l : List (Nat × List UInt8)), Cells w b off cs → LTags D w lo hi cs (.tags l) →
  Calls P F #[.pointer (some ⟨b, off, none⟩)] w fun e w' => ∃ v, e = .returned v ∧ (v = .int .i64 (l.length : Nat) ∧ Only (fun _ => False) w w')
def UvC (P : Program) (U F : Nat) : Prop := Plain P F ∧ ∀ (base : Nat) (w : World) (dst : Value) (ds : List UInt8) (n : Nat), Own U base w dst ds → n < 4294967296 → base ≤ w.heap.size → ds.length + 10 ≤ lim2 →
  Calls P F #[dst, .int .u32 n] w fun e w' => ∃ v, e = .returned v ∧ (Own U base w' v (ds ++ uvEnc n) ∧ Only (fun j => base ≤ j) w w')
def TEachC (P : Program) (U F : Nat) : Prop := Plain P F ∧ ∀ (D base : Nat) (w : World) (dst : Value) (ds : List UInt8) (b off lo hi : Nat) (cs : List Value) (l : List (Nat × List UInt8)), Own U base w dst ds → Cells w b off cs → LTags D w lo hi cs (.tags l) →
  upTags 0 l → l.length < 4294967296 → b < base → hi ≤ base → D < base → base ≤ w.heap.size → ds.length + (encTags l).length ≤ lim2 →
  Calls P F #[.pointer (some ⟨b, off, none⟩), dst] w fun e w' => ∃ v, e = .returned v ∧ (Own U base w' v (ds ++ encTags l) ∧ Only (fun j => base ≤ j) w w')

/-- The numbers that the code names. -/
structure Hn where
  sl : Nat
  u8 : Nat
  int : Nat
  bool : Nat
  i16 : Nat
  u32 : Nat
  tg : Nat

structure AX where
  P : Program
  G : Hn
  D : Nat
  base : Nat
  ver : Int
  fx : Bool
  flex : Bool
  N : Nat
  M0 : Nat

/-- The slot of the flag, if there is one (else that of the version). -/
def AX.fs (X : AX) : Nat := if X.fx = true then 6 else 5
theorem AX.fs_le (X : AX) : 5 ≤ X.fs ∧ X.fs ≤ 6 := by unfold AX.fs; split <;> omega
theorem AX.fs6 {X : AX} (h : X.fx = true) : X.fs = 6 := by unfold AX.fs; rw [if_pos h]
/-- Where a writing stands: the octets that have been written. -/
structure SA (X : AX) (a : Act) (w : World) (ds : List UInt8) : Prop where
  size : a.tmps.size = X.N
  defers : a.defers = []
  ver : gt a 5 = .int .i16 X.ver
  fl : X.fx = true → gt a 6 = .bool X.flex
  own : Own X.G.u8 X.base w (gt a 1) ds
  base : X.base ≤ w.heap.size
  db : X.D < X.base

/-- The slots that a piece of code that writes may change: the octets' slice, variables from k on, and what stands behind m. -/
def Cw (M0 k m : Nat) (j : Nat) : Prop := j = 1 ∨ (k ≤ j ∧ j < M0) ∨ m ≤ j

theorem Ag.cw {M0 k m k' m' : Nat} {a b : Act} (h : Ag (Cw M0 k' m') a b) (hk : k ≤ k') (hm : m ≤ m') : Ag (Cw M0 k m) a b :=
  h.mono fun j hj => by unfold Cw at *; omega

theorem SA.next {X : AX} {a a' : Act} {w w' : World} {ds ds' : List UInt8} {k m : Nat} (h : SA X a w ds) (ha : Ag (Cw X.M0 k m) a a') (hk : X.fs < k) (hm : 6 < m) (ho : Own X.G.u8 X.base w' (gt a' 1) ds') (hw : Only (fun j => X.base ≤ j) w w') : SA X a' w' ds' := by
  have hfs := X.fs_le
  have hn : ∀ j, j = 5 ∨ j = X.fs → ¬ Cw X.M0 k m j := fun j hj => by unfold Cw; omega
  exact ⟨ha.size.trans h.size, ha.defers.trans h.defers, (ha.keep 5 (hn _ (.inl rfl))).trans h.ver, fun hf => by
    have := ha.keep X.fs (hn _ (.inr rfl))
    rw [AX.fs6 hf] at this
    exact this.trans (h.fl hf), ho, Nat.le_trans h.base hw.size, h.db⟩

/-- A step that writes nothing and leaves the slice alone. -/
theorem SA.act {X : AX} {a a' : Act} {w : World} {ds : List UInt8} {S : Nat → Prop} (h : SA X a w ds) (ha : Ag S a a') (h1 : ¬ S 1) (h5 : ¬ S 5) (h6 : ¬ S X.fs) : SA X a' w ds :=
  ⟨ha.size.trans h.size, ha.defers.trans h.defers, (ha.keep 5 h5).trans h.ver, fun hf => by
    have := ha.keep X.fs h6
    rw [AX.fs6 hf] at this
    exact this.trans (h.fl hf), by rw [ha.keep 1 h1]; exact h.own, h.base, h.db⟩

theorem Own.keep {U base : Nat} {w w' : World} {v : Value} {bs : List UInt8} (h : Own U base w v bs) (ho : Only (fun _ => False) w w') : Own U base w' v bs :=
  World.ownsRow.kept (row := none) h ⟨ho.os, ho.tape, ho.output, ho.size, fun k hk _ => ho.block k hk id⟩ (by cases hv : v.ownBlock <;> simp)

/-! ### writing one value -/

inductive AV
  | one (k : RK) (F : Nat)
  | two (kc kp : RK) (Fc Fp : Nat)

def AV.rk (flex : Bool) : AV → RK
  | .one k _ => k
  | .two kc kp _ _ => if flex then kc else kp
def AV.t : AV → Nat
  | .one _ _ => 3
  | .two _ _ _ _ => 7
def AV.ok (P : Program) (U : Nat) (fx : Bool) : AV → Prop
  | .one k F => AppC P U F k
  | .two kc kp Fc Fp => fx = true ∧ AppC P U Fc kc ∧ AppC P U Fp kp

/-- A call with the octets and a variable. -/
def gApp (G : Hn) (F u k m : Nat) (c : Code) : Code := reg [⟨some m, .move (.tmp 1), none⟩, ⟨some (m + 1), .move (.tmp k), none⟩, ⟨some (m + 2), .call ⟨.value (.func F), #[.tmp m, .tmp (m + 1)], #[G.sl, u]⟩, none⟩, ⟨some 1, .assign (.tmp (m + 2)), none⟩] c

def gAV (G : Hn) (u k m : Nat) : AV → Code → Code
  | .one _ F, c => gApp G F u k m c
  | .two _ _ Fc Fp, c => .seq (gMove 6 m (pc c [0])) (.cond (.tmp m) (gApp G Fc u k (m + 1) (pc c [1, 0])) (gApp G Fp u k (m + 4) (pc c [1, 1])))

section
variable {X : AX} {Q : Exit → Act → World → Prop}

theorem gMove_wp' {P : Program} {s m : Nat} {c0 : Code} {a : Act} {w : World} (hN : m < a.tmps.size) (h : Q .normal (a.put (some m) (gt a s)) w) : (gMove s m c0).wp P Q a w :=
  wp_reg (wpC_val (runs_move _) (wpC_nil h))

theorem args2 {a : Act} {p q : Nat} {x y : Value} (hx : gt a p = x) (hy : gt a q = y) : (#[Operand.tmp p, Operand.tmp q] : Array Operand).map a.eval = #[x, y] := by
  simp only [gt] at hx hy
  simp [Act.eval, hx, hy]
theorem args1 {a : Act} {p : Nat} {x : Value} (hx : gt a p = x) : (#[Operand.tmp p] : Array Operand).map a.eval = #[x] := by
  simp only [gt] at hx
  simp [Act.eval, hx]
theorem args3 {a : Act} {p q r : Nat} {x y z : Value} (hx : gt a p = x) (hy : gt a q = y) (hz : gt a r = z) : (#[Operand.tmp p, Operand.tmp q, Operand.tmp r] : Array Operand).map a.eval = #[x, y, z] := by
  simp only [gt] at hx hy hz
  simp [Act.eval, hx, hy, hz]

theorem gApp_wp {F u k m k0 m0 lo hi : Nat} {c0 : Code} {rk : RK} {cs : List Value} {x : Val} (hF : AppC X.P X.G.u8 F rk) {a0 a : Act} {w : World} {ds : List UInt8} (hst : SA X a w ds) (h0 : Ag (Cw X.M0 k0 m0) a0 a) (hv : gt a k = valOf rk cs) (hx : rk.leaf X.D w lo hi cs x) (hw : wf rk.m.w x)
    (hl : ds.length + (enc rk.m.w x).length + 16 ≤ lim2) (hk0 : X.fs < k0) (hk : k < m) (h1 : k ≠ 1) (hm : m0 ≤ m) (hm1 : 6 < m0) (hN : m + 3 ≤ X.N)
    (h : ∀ a' w', Ag (Cw X.M0 k0 m0) a0 a' → Only (fun j => X.base ≤ j) w w' → SA X a' w' (ds ++ enc rk.m.w x) → Q .normal a' w') : (gApp X.G F u k m c0).wp X.P Q a w := by
  have hfs := X.fs_le
  refine wp_reg (wpC_val (runs_move _) ?_)
  have z0 : m < a.tmps.size := by rw [hst.size]; omega
  have g1 := (Ag.refl (Tm m) a).put (d := m) (by unfold Tm; omega) z0 (a.eval (.tmp 1))
  have e1 : gt (a.put (some m) (a.eval (.tmp 1))) m = gt a 1 := by rw [gt_put z0, if_pos rfl]; rfl
  have e1k : gt (a.put (some m) (a.eval (.tmp 1))) k = valOf rk cs := by rw [gt_put z0, if_neg (by omega)]; exact hv
  generalize a.put (some m) (a.eval (.tmp 1)) = a1 at g1 e1 e1k
  refine wpC_val (runs_move _) ?_
  rw [evT, e1k]
  have z1 : m + 1 < a1.tmps.size := by rw [g1.size, hst.size]; omega
  have g2 := g1.put (d := m + 1) (by unfold Tm; omega) z1 (valOf rk cs)
  have e2 : gt (a1.put (some (m + 1)) (valOf rk cs)) (m + 1) = valOf rk cs := by rw [gt_put z1, if_pos rfl]
  have e2b : gt (a1.put (some (m + 1)) (valOf rk cs)) m = gt a 1 := by rw [gt_put z1, if_neg (by omega)]; exact e1
  generalize a1.put (some (m + 1)) (valOf rk cs) = a2 at g2 e2 e2b
  refine wpC_call (R := fun v w' => Own X.G.u8 X.base w' v (ds ++ enc rk.m.w x) ∧ Only (fun j => X.base ≤ j) w w') hF.1 (by rw [args2 e2b e2]; exact hF.2 X.D X.base w _ ds lo hi cs x hst.own hx hw hst.db hst.base hl) ?_
  rintro v w1 ⟨hv1, ho1⟩
  have z2 : m + 2 < a2.tmps.size := by rw [g2.size, hst.size]; omega
  have g3 := g2.put (d := m + 2) (by unfold Tm; omega) z2 v
  have e3 : gt (a2.put (some (m + 2)) v) (m + 2) = v := by rw [gt_put z2, if_pos rfl]
  generalize a2.put (some (m + 2)) v = a3 at g3 e3
  refine wpC_val (runs_assign _) (wpC_nil ?_)
  rw [evT, e3]
  have z3 : 1 < a3.tmps.size := by rw [g3.size, hst.size]; omega
  have g4 : Ag (Cw X.M0 k0 m0) a (a3.put (some 1) v) := (g3.mono (S' := Cw X.M0 k0 m0) fun j hj => by unfold Tm at hj; unfold Cw; omega).put (d := 1) (.inl rfl) z3 v
  have e4 : gt (a3.put (some 1) v) 1 = v := by rw [gt_put z3, if_pos rfl]
  refine h _ w1 (h0.trans g4) ho1 (hst.next g4 hk0 hm1 (by rw [e4]; exact hv1) ho1)

theorem gAV_wp (v : AV) {u k m k0 m0 lo hi : Nat} {c0 : Code} {cs : List Value} {x : Val} (hv : v.ok X.P X.G.u8 X.fx) {a0 a : Act} {w : World} {ds : List UInt8} (hst : SA X a w ds) (h0 : Ag (Cw X.M0 k0 m0) a0 a) (hk : gt a k = valOf (v.rk X.flex) cs)
    (hx : (v.rk X.flex).leaf X.D w lo hi cs x) (hw : wf (v.rk X.flex).m.w x) (hl : ds.length + (enc (v.rk X.flex).m.w x).length + 16 ≤ lim2) (hk0 : X.fs < k0) (hkm : k < m) (h1 : k ≠ 1) (hm : m0 ≤ m) (hm1 : 6 < m0) (hN : m + v.t ≤ X.N)
    (h : ∀ a' w', Ag (Cw X.M0 k0 m0) a0 a' → Only (fun j => X.base ≤ j) w w' → SA X a' w' (ds ++ enc (v.rk X.flex).m.w x) → Q .normal a' w') : (gAV X.G u k m v c0).wp X.P Q a w := by
  have hfs := X.fs_le
  cases v with
  | one rk F => simp only [AV.t] at hN; exact gApp_wp (rk := rk) hv hst h0 hk hx hw hl hk0 hkm h1 hm hm1 (by omega) h
  | two kc kp Fc Fp =>
    simp only [AV.t] at hN
    obtain ⟨hfx, hc, hp⟩ := hv
    have z0 : m < a.tmps.size := by rw [hst.size]; omega
    refine wp_seq (gMove_wp' z0 ?_)
    have g1 := (Ag.refl (Tm m) a).put (d := m) (by unfold Tm; omega) z0 (gt a 6)
    have e1 : gt (a.put (some m) (gt a 6)) m = .bool X.flex := by rw [gt_put z0, if_pos rfl, hst.fl hfx]
    generalize a.put (some m) (gt a 6) = a1 at g1 e1
    have st1 : SA X a1 w ds := hst.act g1 (by unfold Tm; omega) (by unfold Tm; omega) (by unfold Tm; omega)
    have k1 : gt a1 k = valOf ((AV.two kc kp Fc Fp).rk X.flex) cs := (g1.keep k (by unfold Tm; omega)).trans hk
    have h01 : Ag (Cw X.M0 k0 m0) a0 a1 := h0.trans (g1.mono fun j hj => by unfold Tm at hj; unfold Cw; omega)
    refine wp_cond (t := X.flex) e1 ?_
    cases hf : X.flex with
    | true =>
      rw [if_pos rfl]
      simp only [AV.rk, hf, if_true] at k1 hx hw hl h
      exact gApp_wp (rk := kc) hc st1 h01 k1 hx hw hl hk0 (by omega) h1 (by omega) hm1 (by omega) h
    | false =>
      rw [if_neg (by decide)]
      simp only [AV.rk, hf, Bool.false_eq_true, if_false] at k1 hx hw hl h
      exact gApp_wp (rk := kp) hp st1 h01 k1 hx hw hl hk0 (by omega) h1 (by omega) hm1 (by omega) h
end
end Go.Proofs.YtfimokbgggimmaaDoor.Kf
