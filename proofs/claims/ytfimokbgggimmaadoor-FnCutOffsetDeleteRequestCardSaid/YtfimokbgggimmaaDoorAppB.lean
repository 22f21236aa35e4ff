/- Writing, the second part: lists' lengths, the loop over a list's things, tags. -/
import Derived.Test.YtfimokbgggimmaaDoorAppA
import Derived.WalkSpells
namespace Go.Proofs.YtfimokbgggimmaaDoor.Kf
set_option linter.unusedVariables false
set_option linter.unusedSimpArgs false
open Go Go.RowKit

section
variable {P : Program} {a : Act} {w : World}

theorem runs_len {TS : Nat} (hT : ∃ e, P.underlying TS = some (.slice e)) {x : Operand} {p : Option Addr} {n c : Nat} (hx : a.eval x = .slice p n c) : Runs P a w (.call ⟨.builtin .len, #[x], #[TS]⟩) (.int .i64 (n : Nat)) w := by
  intro o h
  obtain ⟨e, hT⟩ := hT
  simp [execOp, h, resolve, invoke, builtin, hx, Builtin.len_, run_underlying hT, goInt]

theorem runs_isNil {TS t2 : Nat} (hT : ∃ e, P.underlying TS = some (.slice e)) {x : Operand} {p : Option Addr} {n c : Nat} (hx : a.eval x = .slice p n c) : Runs P a w (.binOp .eql TS x (.const (.slice none 0 0)) t2) (.bool p.isNone) w := by
  intro o h
  obtain ⟨e, hT⟩ := hT
  have e0 : a.eval (.const (.slice none 0 0)) = .slice none 0 0 := rfl
  simp [execOp, h, hx, e0, eqGuard_at_slice, Lib.run_eql_slice_nil w TS e p n c 0 0 hT]

/-- A type of so many cells, more than one. -/
structure Agg (P : Program) (u n : Nat) : Prop where
  desc : ∃ d, P.underlying u = some d ∧ (match d with | .struct _ | .array _ _ => true | _ => false) = true
  sz : ∃ inf, P.info? u = some inf ∧ inf.size = n

theorem runs_loadN {u n b o : Nat} (hu : Agg P u n) {x : Operand} {cs : List Value} (hx : a.eval x = .pointer (some ⟨b, o, none⟩)) (hl : cs.length = n) (hv : Cells w b o cs) :
    Runs P a w (.load u x) (.agg cs.toArray) w := by
  intro q h
  obtain ⟨⟨d, hd, hag⟩, inf, hi, hs⟩ := hu
  have h1 : (isAgg u).run P w = .ok true w := by
    simp only [Go.isAgg, Sem.run_bind, run_underlying hd, Result.andThen]
    cases d <;> first | rfl | (simp at hag)
  have h2 := run_loadCells_list (P := P) w ⟨b, o, none⟩ cs (fun j v hj => by rw [Addr.add_lit]; exact hv j v hj)
  simp [execOp, h, Instr.loadAt, hx, Instr.sureAddr, loadVar, h1, sizeOf, typeInfo, hi, hs, ← hl, h2]

/-- The type u is that of a variable of the kind k. -/
def Ld (P : Program) (u : Nat) (k : RK) : Prop := (One P u ∧ k.n = 1 ∧ (∀ cs : List Value, cs.length = 1 → valOf k cs = cs.headD undef)) ∨ (Agg P u k.n ∧ ∀ cs : List Value, valOf k cs = .agg cs.toArray)

theorem runs_ld {u b o : Nat} {k : RK} (hu : Ld P u k) {x : Operand} {cs : List Value} (hx : a.eval x = .pointer (some ⟨b, o, none⟩)) (hl : cs.length = k.n) (hv : Cells w b o cs) : Runs P a w (.load u x) (valOf k cs) w := by
  rcases hu with ⟨h1, h2, h3⟩ | ⟨h1, h2⟩
  · rw [h3 cs (hl.trans h2)]
    obtain ⟨c, rfl⟩ : ∃ c, cs = [c] := List.length_eq_one_iff.1 (hl.trans h2)
    exact runs_load h1 hx (by simpa using hv 0 c rfl)
  · rw [h2 cs]
    exact runs_loadN h1 hx hl hv
end

theorem RK.leaf_len {D : Nat} {k : RK} {w : World} {lo hi : Nat} {cs : List Value} {x : Val} (h : k.leaf D w lo hi cs x) : cs.length = k.n := by
  cases k with
  | prim p =>
    rcases h with ⟨hp, n, _, _, _, rfl⟩ | ⟨rfl, s, hs, _, rfl⟩
    · cases p <;> first | rfl | exact absurd rfl hp
    · simp [RK.n, RK.m, M.cells, hs]
  | str c nl => rcases h with ⟨_, s, _, rfl⟩ | ⟨_, ⟨_, rfl⟩ | ⟨s, b, _, rfl, _⟩⟩ <;> rfl
  | byt c nl => rcases h with ⟨_, _, rfl⟩ | ⟨_, _, p, rfl⟩ | ⟨s, v, _, rfl, _⟩ <;> rfl
  | tags => obtain ⟨l, _, h⟩ := h; rcases h with ⟨_, rfl⟩ | ⟨r, rfl, _⟩ <;> rfl

/-- A leaf's cells and what they lead to. -/
theorem RK.of_holds {D : Nat} {k : RK} {w : World} {lo hi b off : Nat} {x : Val} (h : Holds D k.m w lo hi b off x) : ∃ cs, Cells w b off cs ∧ k.leaf D w lo hi cs x := by
  cases k <;> exact ⟨h.2.choose, h.2.choose_spec.1, h.2.choose_spec.2⟩

/-! ### a list's length -/

inductive AL
  | one (nl : Bool) (F : Nat)
  | two (nl : Bool) (Fc Fp : Nat)

def AL.nl : AL → Bool
  | .one nl _ => nl
  | .two nl _ _ => nl
def lenT (nl : Bool) : Nat := if nl then 6 else 4
def AL.t : AL → Nat
  | .one nl _ => lenT nl
  | .two nl _ _ => 1 + lenT nl + lenT nl
def AL.c (flex : Bool) : AL → Bool
  | .one _ _ => false
  | .two _ _ _ => flex
def AL.ok (P : Program) (U : Nat) (fx : Bool) : AL → Prop
  | .one nl F => ALenC P U F false nl
  | .two nl Fc Fp => fx = true ∧ ALenC P U Fc true nl ∧ ALenC P U Fp false nl

def gALen1 (G : Hn) (nl : Bool) (F TS k m : Nat) (c : Code) : Code :=
  if nl then reg [⟨some m, .move (.tmp 1), none⟩, ⟨some (m + 1), .move (.tmp k), none⟩, ⟨some (m + 2), .call ⟨.builtin .len, #[.tmp (m + 1)], #[TS]⟩, none⟩, ⟨some (m + 3), .move (.tmp k), none⟩, ⟨some (m + 4), .binOp .eql TS (.tmp (m + 3)) (.const (.slice none 0 0)) TS, none⟩,
      ⟨some (m + 5), .call ⟨.value (.func F), #[.tmp m, .tmp (m + 2), .tmp (m + 4)], #[G.sl, G.int, G.bool]⟩, none⟩, ⟨some 1, .assign (.tmp (m + 5)), none⟩] c
  else reg [⟨some m, .move (.tmp 1), none⟩, ⟨some (m + 1), .move (.tmp k), none⟩, ⟨some (m + 2), .call ⟨.builtin .len, #[.tmp (m + 1)], #[TS]⟩, none⟩, ⟨some (m + 3), .call ⟨.value (.func F), #[.tmp m, .tmp (m + 2)], #[G.sl, G.int]⟩, none⟩, ⟨some 1, .assign (.tmp (m + 3)), none⟩] c

def gALen (G : Hn) (TS k m : Nat) : AL → Code → Code
  | .one nl F, c => gALen1 G nl F TS k m c
  | .two nl Fc Fp, c => .seq (gMove 6 m (pc c [0])) (.cond (.tmp m) (gALen1 G nl Fc TS k (m + 1) (pc c [1, 0])) (gALen1 G nl Fp TS k (m + 1 + lenT nl) (pc c [1, 1])))

section
variable {X : AX} {Q : Exit → Act → World → Prop}

theorem gALen1_wp {nl cc : Bool} {F TS k m k0 m0 : Nat} {c0 : Code} {p : Option Addr} {n c : Nat} (hT : ∃ e, X.P.underlying TS = some (.slice e)) (hF : ALenC X.P X.G.u8 F cc nl) {a0 a : Act} {w : World} {ds : List UInt8} (hst : SA X a w ds) (h0 : Ag (Cw X.M0 k0 m0) a0 a)
    (hv : gt a k = .slice p n c) (hn : n ≤ 2147483646) (hl : ds.length + 10 ≤ lim2) (hk0 : X.fs < k0) (hk : k < m) (h1 : k ≠ 1) (hm : m0 ≤ m) (hm1 : 6 < m0) (hN : m + lenT nl ≤ X.N)
    (h : ∀ a' w', Ag (Cw X.M0 k0 m0) a0 a' → Only (fun j => X.base ≤ j) w w' → SA X a' w' (ds ++ cntEnc cc 4 (if nl && p.isNone then none else some n)) → Q .normal a' w') : (gALen1 X.G nl F TS k m c0).wp X.P Q a w := by
  have hfs := X.fs_le
  have hsz := hst.size
  cases hnl : nl with
  | false =>
    subst hnl
    simp only [lenT, Bool.false_eq_true, if_false] at hN
    show (reg _ _).wp _ _ _ _
    refine wp_reg (wpC_val (runs_move _) ?_)
    have z0 : m < a.tmps.size := by omega
    have g1 := (Ag.refl (Tm m) a).put (d := m) (by unfold Tm; omega) z0 (a.eval (.tmp 1))
    have e1 : gt (a.put (some m) (a.eval (.tmp 1))) m = gt a 1 := by rw [gt_put z0, if_pos rfl]; rfl
    generalize a.put (some m) (a.eval (.tmp 1)) = a1 at g1 e1
    refine wpC_val (runs_move _) ?_
    rw [evT, show gt a1 k = .slice p n c from (g1.keep k (by unfold Tm; omega)).trans hv]
    have z1 : m + 1 < a1.tmps.size := by rw [g1.size]; omega
    have g2 := g1.put (d := m + 1) (by unfold Tm; omega) z1 (.slice p n c)
    have e2 : gt (a1.put (some (m + 1)) (.slice p n c)) (m + 1) = .slice p n c := by rw [gt_put z1, if_pos rfl]
    have e2b : gt (a1.put (some (m + 1)) (.slice p n c)) m = gt a 1 := by rw [gt_put z1, if_neg (by omega)]; exact e1
    generalize a1.put (some (m + 1)) (.slice p n c) = a2 at g2 e2 e2b
    refine wpC_val (runs_len hT e2) ?_
    have z2 : m + 2 < a2.tmps.size := by rw [g2.size]; omega
    have g3 := g2.put (d := m + 2) (by unfold Tm; omega) z2 (.int .i64 (n : Nat))
    have e3 : gt (a2.put (some (m + 2)) (.int .i64 (n : Nat))) (m + 2) = .int .i64 (n : Nat) := by rw [gt_put z2, if_pos rfl]
    have e3b : gt (a2.put (some (m + 2)) (.int .i64 (n : Nat))) m = gt a 1 := by rw [gt_put z2, if_neg (by omega)]; exact e2b
    generalize a2.put (some (m + 2)) (.int .i64 (n : Nat)) = a3 at g3 e3 e3b
    have hc := hF.2 X.base w _ ds n false hst.own hn (by simp) hst.base hl
    simp only [Bool.false_eq_true, if_false] at hc
    refine wpC_call (R := fun v w' => Own X.G.u8 X.base w' v (ds ++ cntEnc cc 4 (some n)) ∧ Only (fun j => X.base ≤ j) w w') hF.1 (by rw [args2 e3b e3]; exact hc) ?_
    rintro v w1 ⟨hv1, ho1⟩
    have z3 : m + 3 < a3.tmps.size := by rw [g3.size]; omega
    have g4 := g3.put (d := m + 3) (by unfold Tm; omega) z3 v
    have e4 : gt (a3.put (some (m + 3)) v) (m + 3) = v := by rw [gt_put z3, if_pos rfl]
    generalize a3.put (some (m + 3)) v = a4 at g4 e4
    refine wpC_val (runs_assign _) (wpC_nil ?_)
    rw [evT, e4]
    have z4 : 1 < a4.tmps.size := by rw [g4.size]; omega
    have g5 : Ag (Cw X.M0 k0 m0) a (a4.put (some 1) v) := (g4.mono (S' := Cw X.M0 k0 m0) fun j hj => by unfold Tm at hj; unfold Cw; omega).put (d := 1) (.inl rfl) z4 v
    exact h _ w1 (h0.trans g5) ho1 (hst.next g5 hk0 hm1 (by rw [gt_put z4, if_pos rfl]; exact hv1) ho1)
  | true =>
    subst hnl
    simp only [lenT, if_true] at hN
    show (reg _ _).wp _ _ _ _
    refine wp_reg (wpC_val (runs_move _) ?_)
    have z0 : m < a.tmps.size := by omega
    have g1 := (Ag.refl (Tm m) a).put (d := m) (by unfold Tm; omega) z0 (a.eval (.tmp 1))
    have e1 : gt (a.put (some m) (a.eval (.tmp 1))) m = gt a 1 := by rw [gt_put z0, if_pos rfl]; rfl
    generalize a.put (some m) (a.eval (.tmp 1)) = a1 at g1 e1
    refine wpC_val (runs_move _) ?_
    rw [evT, show gt a1 k = .slice p n c from (g1.keep k (by unfold Tm; omega)).trans hv]
    have z1 : m + 1 < a1.tmps.size := by rw [g1.size]; omega
    have g2 := g1.put (d := m + 1) (by unfold Tm; omega) z1 (.slice p n c)
    have e2 : gt (a1.put (some (m + 1)) (.slice p n c)) (m + 1) = .slice p n c := by rw [gt_put z1, if_pos rfl]
    have e2b : gt (a1.put (some (m + 1)) (.slice p n c)) m = gt a 1 := by rw [gt_put z1, if_neg (by omega)]; exact e1
    generalize a1.put (some (m + 1)) (.slice p n c) = a2 at g2 e2 e2b
    refine wpC_val (runs_len hT e2) ?_
    have z2 : m + 2 < a2.tmps.size := by rw [g2.size]; omega
    have g3 := g2.put (d := m + 2) (by unfold Tm; omega) z2 (.int .i64 (n : Nat))
    have e3 : gt (a2.put (some (m + 2)) (.int .i64 (n : Nat))) (m + 2) = .int .i64 (n : Nat) := by rw [gt_put z2, if_pos rfl]
    have e3b : gt (a2.put (some (m + 2)) (.int .i64 (n : Nat))) m = gt a 1 := by rw [gt_put z2, if_neg (by omega)]; exact e2b
    generalize a2.put (some (m + 2)) (.int .i64 (n : Nat)) = a3 at g3 e3 e3b
    refine wpC_val (runs_move _) ?_
    rw [evT, show gt a3 k = .slice p n c from (g3.keep k (by unfold Tm; omega)).trans hv]
    have z3 : m + 3 < a3.tmps.size := by rw [g3.size]; omega
    have g4 := g3.put (d := m + 3) (by unfold Tm; omega) z3 (.slice p n c)
    have e4 : gt (a3.put (some (m + 3)) (.slice p n c)) (m + 3) = .slice p n c := by rw [gt_put z3, if_pos rfl]
    have e4a : gt (a3.put (some (m + 3)) (.slice p n c)) (m + 2) = .int .i64 (n : Nat) := by rw [gt_put z3, if_neg (by omega)]; exact e3
    have e4b : gt (a3.put (some (m + 3)) (.slice p n c)) m = gt a 1 := by rw [gt_put z3, if_neg (by omega)]; exact e3b
    generalize a3.put (some (m + 3)) (.slice p n c) = a4 at g4 e4 e4a e4b
    refine wpC_val (runs_isNil hT e4) ?_
    have z4 : m + 4 < a4.tmps.size := by rw [g4.size]; omega
    have g5 := g4.put (d := m + 4) (by unfold Tm; omega) z4 (.bool p.isNone)
    have e5 : gt (a4.put (some (m + 4)) (.bool p.isNone)) (m + 4) = .bool p.isNone := by rw [gt_put z4, if_pos rfl]
    have e5a : gt (a4.put (some (m + 4)) (.bool p.isNone)) (m + 2) = .int .i64 (n : Nat) := by rw [gt_put z4, if_neg (by omega)]; exact e4a
    have e5b : gt (a4.put (some (m + 4)) (.bool p.isNone)) m = gt a 1 := by rw [gt_put z4, if_neg (by omega)]; exact e4b
    generalize a4.put (some (m + 4)) (.bool p.isNone) = a5 at g5 e5 e5a e5b
    have hc := hF.2 X.base w _ ds n p.isNone hst.own hn (fun _ => rfl) hst.base hl
    rw [if_pos rfl] at hc
    refine wpC_call (R := fun v w' => Own X.G.u8 X.base w' v (ds ++ cntEnc cc 4 (if p.isNone then none else some n)) ∧ Only (fun j => X.base ≤ j) w w') hF.1 (by rw [args3 e5b e5a e5]; exact hc) ?_
    rintro v w1 ⟨hv1, ho1⟩
    have z5 : m + 5 < a5.tmps.size := by rw [g5.size]; omega
    have g6 := g5.put (d := m + 5) (by unfold Tm; omega) z5 v
    have e6 : gt (a5.put (some (m + 5)) v) (m + 5) = v := by rw [gt_put z5, if_pos rfl]
    generalize a5.put (some (m + 5)) v = a6 at g6 e6
    refine wpC_val (runs_assign _) (wpC_nil ?_)
    rw [evT, e6]
    have z6 : 1 < a6.tmps.size := by rw [g6.size]; omega
    have g7 : Ag (Cw X.M0 k0 m0) a (a6.put (some 1) v) := (g6.mono (S' := Cw X.M0 k0 m0) fun j hj => by unfold Tm at hj; unfold Cw; omega).put (d := 1) (.inl rfl) z6 v
    refine h _ w1 (h0.trans g7) ho1 (hst.next g7 hk0 hm1 (by rw [gt_put z6, if_pos rfl]; simpa using hv1) ho1)

theorem gALen_wp (l : AL) {TS k m k0 m0 : Nat} {c0 : Code} {p : Option Addr} {n c : Nat} (hT : ∃ e, X.P.underlying TS = some (.slice e)) (hF : l.ok X.P X.G.u8 X.fx) {a0 a : Act} {w : World} {ds : List UInt8} (hst : SA X a w ds) (h0 : Ag (Cw X.M0 k0 m0) a0 a)
    (hv : gt a k = .slice p n c) (hn : n ≤ 2147483646) (hl : ds.length + 10 ≤ lim2) (hk0 : X.fs < k0) (hk : k < m) (h1 : k ≠ 1) (hm : m0 ≤ m) (hm1 : 6 < m0) (hN : m + l.t ≤ X.N)
    (h : ∀ a' w', Ag (Cw X.M0 k0 m0) a0 a' → Only (fun j => X.base ≤ j) w w' → SA X a' w' (ds ++ cntEnc (l.c X.flex) 4 (if l.nl && p.isNone then none else some n)) → Q .normal a' w') : (gALen X.G TS k m l c0).wp X.P Q a w := by
  have hfs := X.fs_le
  cases l with
  | one nl F => simp only [AL.t] at hN; exact gALen1_wp hT hF hst h0 hv hn hl hk0 hk h1 hm hm1 hN h
  | two nl Fc Fp =>
    simp only [AL.t] at hN
    obtain ⟨hfx, hc, hp⟩ := hF
    have z0 : m < a.tmps.size := by rw [hst.size]; unfold lenT at hN; split at hN <;> omega
    refine wp_seq (gMove_wp' z0 ?_)
    have g1 := (Ag.refl (Tm m) a).put (d := m) (by unfold Tm; omega) z0 (gt a 6)
    have e1 : gt (a.put (some m) (gt a 6)) m = .bool X.flex := by rw [gt_put z0, if_pos rfl, hst.fl hfx]
    generalize a.put (some m) (gt a 6) = a1 at g1 e1
    have st1 : SA X a1 w ds := hst.act g1 (by unfold Tm; omega) (by unfold Tm; omega) (by unfold Tm; omega)
    have k1 : gt a1 k = .slice p n c := (g1.keep k (by unfold Tm; omega)).trans hv
    have h01 : Ag (Cw X.M0 k0 m0) a0 a1 := h0.trans (g1.mono fun j hj => by unfold Tm at hj; unfold Cw; omega)
    refine wp_cond (t := X.flex) e1 ?_
    cases hf : X.flex with
    | true =>
      rw [if_pos rfl]
      simp only [AL.c, AL.nl, hf] at h
      exact gALen1_wp hT hc st1 h01 k1 hn hl hk0 (by omega) h1 (by omega) hm1 (by omega) h
    | false =>
      rw [if_neg (by decide)]
      simp only [AL.c, AL.nl, hf] at h
      exact gALen1_wp hT hp st1 h01 k1 hn hl hk0 (by omega) h1 (by omega) hm1 (by omega) h
end
end Go.Proofs.YtfimokbgggimmaaDoor.Kf
