/- Writing, the fourth part: THE THEOREM: the code of a part's fields writes just what the form says. -/
import Derived.Test.YtfimokbgggimmaaDoorAppD
namespace Go.Proofs.YtfimokbgggimmaaDoor.Kf
set_option linter.unusedVariables false
set_option linter.unusedSimpArgs false
open Go Go.RowKit

inductive A
  | done
  | val (c : Cond) (i o u : Nat) (v : AV) (rest : A)
  | arrV (c : Cond) (i o TS eb : Nat) (zs : List Value) (n : Option Int) (l : AL) (u : Nat) (v : AV) (rest : A)
  | arrS (c : Cond) (i o TS eb : Nat) (zs : List Value) (n : Option Int) (l : AL) (T : Nat) (body rest : A)
  | tags (i o u FL FU FE : Nat) (rest : A)

def A.isDone : A → Bool
  | .done => true
  | _ => false

def A.k : A → Nat
  | .done => 0
  | .val _ _ _ _ _ r => 1 + r.k
  | .arrV _ _ _ _ _ _ _ _ _ _ r => 3 + r.k
  | .arrS _ _ _ _ _ _ _ _ _ b r => 3 + b.k + r.k
  | .tags _ _ _ _ _ _ r => r.k
def A.t : A → Nat
  | .done => 0
  | .val c _ _ _ v r => c.t + (4 + v.t) + r.t
  | .arrV c _ _ _ _ _ _ l _ v r => c.t + (4 + l.t + 5 + (5 + v.t)) + r.t
  | .arrS c _ _ _ _ _ _ l _ b r => c.t + (4 + l.t + 5 + (4 + b.t)) + r.t
  | .tags _ _ _ _ _ _ r => 14 + r.t

/-- The forms that it writes (n, of a list: from which version on one that is null is read as such: the reading's matter). -/
def A.m (ver : Int) (flex : Bool) : A → M
  | .done => .unit
  | .val c _ o _ v r => if c.holds ver then .fld o (v.rk flex).m (r.m ver flex) else r.m ver flex
  | .arrV c _ o _ _ zs n l _ v r => if c.holds ver then .fld o (.arr (l.c flex) n.isSome (nullR ver n) zs.length (v.rk flex).m) (r.m ver flex) else r.m ver flex
  | .arrS c _ o _ _ zs n l _ b r => if c.holds ver then .fld o (.arr (l.c flex) n.isSome (nullR ver n) zs.length (b.m ver flex)) (r.m ver flex) else r.m ver flex
  | .tags _ o _ _ _ _ r => if flex then .fld o .tags (r.m ver flex) else r.m ver flex

def A.ok (P : Program) (U : Nat) (fx : Bool) : A → Nat → Prop
  | .done, _ => True
  | .val _ i o u v r, T => v.ok P U fx ∧ (∀ flex, FieldAt P T i o u (v.rk flex).n ∧ Ld P u (v.rk flex)) ∧ r.ok P U fx T
  | .arrV _ i o TS eb zs n l u v r, T => l.nl = n.isSome ∧ l.ok P U fx ∧ FieldAt P T i o TS 1 ∧ Sl P TS zs.length eb zs ∧ v.ok P U fx ∧ (∀ flex, (v.rk flex).n = zs.length ∧ Ld P u (v.rk flex)) ∧ r.ok P U fx T
  | .arrS _ i o TS eb zs n l T' b r, T => l.nl = n.isSome ∧ l.ok P U fx ∧ FieldAt P T i o TS 1 ∧ Sl P TS zs.length eb zs ∧ b.ok P U fx T' ∧ r.ok P U fx T
  | .tags i o u FL FU FE r, T => fx = true ∧ FieldAt P T i o u 1 ∧ TLenC P FL ∧ UvC P U FU ∧ TEachC P U FE ∧ r.ok P U fx T

def gElV (G : Hn) (TS u k ctr m : Nat) (v : AV) (c : Code) : Code :=
  .seq (gCopy ctr (k + 1) m (pc c [0]))
  (.seq (reg [⟨some (m + 1), .move (.tmp k), none⟩, ⟨some (m + 2), .move (.tmp (k + 1)), none⟩, ⟨some (m + 3), .indexAddr TS (.tmp (m + 1)) (.tmp (m + 2)), none⟩, ⟨some (m + 4), .load u (.tmp (m + 3)), none⟩, ⟨some (k + 2), .assign (.tmp (m + 4)), none⟩] (pc c [1, 0]))
  (gAV G u (k + 2) (m + 5) v (pc c [1, 1])))

def gElS (TS k ctr m : Nat) (body : Code → Code) (c : Code) : Code :=
  .seq (gCopy ctr (k + 1) m (pc c [0]))
  (.seq (reg [⟨some (m + 1), .move (.tmp k), none⟩, ⟨some (m + 2), .move (.tmp (k + 1)), none⟩, ⟨some (m + 3), .indexAddr TS (.tmp (m + 1)) (.tmp (m + 2)), none⟩, ⟨some (k + 2), .assign (.tmp (m + 3)), none⟩] (pc c [1, 0]))
  (body (pc c [1, 1])))

def gA (G : Hn) : A → (T s k m : Nat) → Option (Code → Code) → Code → Code
  | .done, _, _, _, _, tail, c => match tail with | some t => t c | none => .skip
  | .val cd i _ u v r, T, s, k, m, tail, c => join (gCond G.i16 5 m (fun c => .seq (gLoad T i u s k (m + cd.t) (pc c [0])) (gAV G u k (m + cd.t + 4) v (pc c [1]))) cd) (r.isDone && tail.isNone) (gA G r T s (k + 1) (m + (cd.t + (4 + v.t))) tail) c
  | .arrV cd i _ TS _ _ _ l u v r, T, s, k, m, tail, c => join (gCond G.i16 5 m (fun c => .seq (gLoad T i TS s k (m + cd.t) (pc c [0])) (.seq (gALen G TS k (m + cd.t + 4) l (pc c [1, 0]))
        (gRange G TS k (m + cd.t + 4 + l.t) (5 + v.t) (gElV G TS u k (m + cd.t + 4 + l.t + 2) (m + cd.t + 4 + l.t + 4) v) (pc c [1, 1])))) cd)
      (r.isDone && tail.isNone) (gA G r T s (k + 3) (m + (cd.t + (4 + l.t + 5 + (5 + v.t)))) tail) c
  | .arrS cd i _ TS _ _ _ l T' b r, T, s, k, m, tail, c => join (gCond G.i16 5 m (fun c => .seq (gLoad T i TS s k (m + cd.t) (pc c [0])) (.seq (gALen G TS k (m + cd.t + 4) l (pc c [1, 0]))
        (gRange G TS k (m + cd.t + 4 + l.t) (4 + b.t) (gElS TS k (m + cd.t + 4 + l.t + 2) (m + cd.t + 4 + l.t + 4) (gA G b T' (k + 2) (k + 3) (m + cd.t + 4 + l.t + 4 + 4) none)) (pc c [1, 1])))) cd)
      (r.isDone && tail.isNone) (gA G r T s (k + (3 + b.k)) (m + (cd.t + (4 + l.t + 5 + (4 + b.t)))) tail) c
  | .tags i _ _ FL FU FE r, T, s, k, m, tail, c => join (gATags G FL FU FE T i s m) (r.isDone && tail.isNone) (gA G r T s k (m + 14) tail) c

section
variable {X : AX}

/-- A piece of code writes what a form says of a value. -/
def Writes (X : AX) (c : Code) (bs : List UInt8) (k m : Nat) (a : Act) (w : World) (ds : List UInt8) : Prop :=
  ∀ Q : Exit → Act → World → Prop, (∀ a' w', Ag (Cw X.M0 k m) a a' → Only (fun j => X.base ≤ j) w w' → SA X a' w' (ds ++ bs) → Q .normal a' w') → c.wp X.P Q a w


theorem gLoadV_wp {P : Program} {Q : Exit → Act → World → Prop} {a : Act} {w : World} {T i o u s k m b off : Nat} {rk : RK} {c0 : Code} {cs : List Value} (hs : gt a s = .pointer (some ⟨b, off, none⟩)) (hf : FieldAt P T i o u rk.n) (hu : Ld P u rk) (hl : cs.length = rk.n) (hv : Cells w b (off + o) cs) (hk : k < m) (hN : m + 4 ≤ a.tmps.size)
    (h : ∀ a', Ag (fun j => j = k ∨ (m ≤ j ∧ j < m + 4)) a a' → gt a' k = valOf rk cs → Q .normal a' w) : (gLoad T i u s k m c0).wp P Q a w := by
  refine wp_reg (wpC_val (runs_move _) ?_)
  have z0 : m < a.tmps.size := by omega
  rw [evT, hs]
  have g1 := (Ag.refl (fun j => j = k ∨ (m ≤ j ∧ j < m + 4)) a).put (d := m) (by omega) z0 (.pointer (some ⟨b, off, none⟩))
  have e1 : gt (a.put (some m) (.pointer (some ⟨b, off, none⟩))) m = .pointer (some ⟨b, off, none⟩) := by rw [gt_put z0, if_pos rfl]
  generalize a.put (some m) (.pointer (some ⟨b, off, none⟩)) = a1 at g1 e1
  refine wpC_val (runs_nilCheck (p := ⟨b, off, none⟩) e1) ?_
  have z1 : m + 1 < a1.tmps.size := by rw [g1.size]; omega
  have g2 := g1.put (d := m + 1) (by omega) z1 (.pointer (some ⟨b, off, none⟩))
  have e2 : gt (a1.put (some (m + 1)) (.pointer (some ⟨b, off, none⟩))) (m + 1) = .pointer (some ⟨b, off, none⟩) := by rw [gt_put z1, if_pos rfl]
  generalize a1.put (some (m + 1)) (.pointer (some ⟨b, off, none⟩)) = a2 at g2 e2
  refine wpC_val (runs_fieldAddr hf (p := ⟨b, off, none⟩) e2) ?_
  rw [Addr.add_lit]
  have z2 : m + 2 < a2.tmps.size := by rw [g2.size]; omega
  have g3 := g2.put (d := m + 2) (by omega) z2 (.pointer (some ⟨b, off + o, none⟩))
  have e3 : gt (a2.put (some (m + 2)) (.pointer (some ⟨b, off + o, none⟩))) (m + 2) = .pointer (some ⟨b, off + o, none⟩) := by rw [gt_put z2, if_pos rfl]
  generalize a2.put (some (m + 2)) (.pointer (some ⟨b, off + o, none⟩)) = a3 at g3 e3
  refine wpC_val (runs_ld hu e3 hl hv) ?_
  have z3 : m + 3 < a3.tmps.size := by rw [g3.size]; omega
  have g4 := g3.put (d := m + 3) (by omega) z3 (valOf rk cs)
  have e4 : gt (a3.put (some (m + 3)) (valOf rk cs)) (m + 3) = valOf rk cs := by rw [gt_put z3, if_pos rfl]
  generalize a3.put (some (m + 3)) (valOf rk cs) = a4 at g4 e4
  refine wpC_val (runs_assign _) (wpC_nil ?_)
  rw [evT, e4]
  have z4 : k < a4.tmps.size := by rw [g4.size]; omega
  exact h _ (g4.put (d := k) (by omega) z4 _) (by rw [gt_put z4, if_pos rfl])

theorem gElV_writes (v : AV) {TS sz eb u k ctr m n c b i lo hi : Nat} {zs : List Value} {c0 : Code} {x : Val} (hS : Sl X.P TS sz eb zs) (hv : v.ok X.P X.G.u8 X.fx) (hu : Ld X.P u (v.rk X.flex)) (hsz : (v.rk X.flex).n = sz) {a : Act} {w : World} {ds : List UInt8} (hst : SA X a w ds)
    (hk0 : gt a k = .slice (some ⟨b, 0, none⟩) n c) (hc : gt a ctr = .int .i64 (i : Nat)) (hin : i < n) (hH : Holds X.D (v.rk X.flex).m w lo hi b (i * sz) x) (hw : wf (v.rk X.flex).m.w x) (h6 : X.fs < k) (hk : k + 3 ≤ X.M0) (hm : X.M0 ≤ m) (hcm : ctr < m) (hN : m + 5 + v.t ≤ X.N) (hct : X.M0 ≤ ctr)
    (hl : ds.length + (enc (v.rk X.flex).m.w x).length + 16 ≤ lim2) : Writes X (gElV X.G TS u k ctr m v c0) (enc (v.rk X.flex).m.w x) (k + 1) m a w ds := by
  have hfs := X.fs_le
  intro Q hQ
  have hs := hst.size
  obtain ⟨cs, hc1, hc2⟩ := RK.of_holds hH
  have hcl := RK.leaf_len hc2
  refine wp_seq (gCopy_wp (by omega) (by omega) fun a1 g1 v1 => ?_)
  rw [hc] at v1
  have k1 : gt a1 k = .slice (some ⟨b, 0, none⟩) n c := (g1.keep k (by omega)).trans hk0
  have st1 : SA X a1 w ds := hst.act g1 (by omega) (by omega) (by omega)
  have f1 : Ag (Cw X.M0 (k + 1) m) a a1 := g1.mono fun j hj => by unfold Cw; omega
  refine wp_seq (wp_reg (wpC_val (runs_move _) ?_))
  have z1 : m + 1 < a1.tmps.size := by rw [g1.size]; omega
  rw [evT, k1]
  have g2 := (Ag.refl (Tm m) a1).put (d := m + 1) (by unfold Tm; omega) z1 (.slice (some ⟨b, 0, none⟩) n c)
  have e2 : gt (a1.put (some (m + 1)) (.slice (some ⟨b, 0, none⟩) n c)) (m + 1) = .slice (some ⟨b, 0, none⟩) n c := by rw [gt_put z1, if_pos rfl]
  have i2 : gt (a1.put (some (m + 1)) (.slice (some ⟨b, 0, none⟩) n c)) (k + 1) = .int .i64 (i : Nat) := by rw [gt_put z1, if_neg (by omega)]; exact v1
  generalize a1.put (some (m + 1)) (.slice (some ⟨b, 0, none⟩) n c) = a2 at g2 e2 i2
  refine wpC_val (runs_move _) ?_
  rw [evT, i2]
  have z2 : m + 2 < a2.tmps.size := by rw [g2.size, g1.size]; omega
  have g3 := g2.put (d := m + 2) (by unfold Tm; omega) z2 (.int .i64 (i : Nat))
  have e3 : gt (a2.put (some (m + 2)) (.int .i64 (i : Nat))) (m + 2) = .int .i64 (i : Nat) := by rw [gt_put z2, if_pos rfl]
  have e3b : gt (a2.put (some (m + 2)) (.int .i64 (i : Nat))) (m + 1) = .slice (some ⟨b, 0, none⟩) n c := by rw [gt_put z2, if_neg (by omega)]; exact e2
  generalize a2.put (some (m + 2)) (.int .i64 (i : Nat)) = a3 at g3 e3 e3b
  refine wpC_val (runs_indexAddr hS (p := ⟨b, 0, none⟩) e3b e3 (by omega) (by omega)) ?_
  rw [Addr.add_lit, Int.toNat_natCast, Nat.zero_add]
  have z3 : m + 3 < a3.tmps.size := by rw [g3.size, g1.size]; omega
  have g4 := g3.put (d := m + 3) (by unfold Tm; omega) z3 (.pointer (some ⟨b, i * sz, none⟩))
  have e4 : gt (a3.put (some (m + 3)) (.pointer (some ⟨b, i * sz, none⟩))) (m + 3) = .pointer (some ⟨b, i * sz, none⟩) := by rw [gt_put z3, if_pos rfl]
  generalize a3.put (some (m + 3)) (.pointer (some ⟨b, i * sz, none⟩)) = a4 at g4 e4
  refine wpC_val (runs_ld hu e4 hcl hc1) ?_
  have z4 : m + 4 < a4.tmps.size := by rw [g4.size, g1.size]; omega
  have g5 := g4.put (d := m + 4) (by unfold Tm; omega) z4 (valOf (v.rk X.flex) cs)
  have e5 : gt (a4.put (some (m + 4)) (valOf (v.rk X.flex) cs)) (m + 4) = valOf (v.rk X.flex) cs := by rw [gt_put z4, if_pos rfl]
  generalize a4.put (some (m + 4)) (valOf (v.rk X.flex) cs) = a5 at g5 e5
  refine wpC_val (runs_assign _) (wpC_nil ?_)
  rw [evT, e5]
  have z5 : k + 2 < a5.tmps.size := by rw [g5.size, g1.size]; omega
  have g6 := (g5.mono (S' := fun j => j = k + 2 ∨ m ≤ j) fun j hj => .inr hj).put (d := k + 2) (by omega) z5 (valOf (v.rk X.flex) cs)
  have e6 : gt (a5.put (some (k + 2)) (valOf (v.rk X.flex) cs)) (k + 2) = valOf (v.rk X.flex) cs := by rw [gt_put z5, if_pos rfl]
  generalize a5.put (some (k + 2)) (valOf (v.rk X.flex) cs) = a6 at g6 e6
  have st6 : SA X a6 w ds := st1.act g6 (by omega) (by omega) (by omega)
  have f6 : Ag (Cw X.M0 (k + 1) m) a a6 := f1.trans (g6.mono fun j hj => by unfold Cw; omega)
  exact gAV_wp v hv st6 f6 e6 hc2 hw hl (by omega) (by omega) (by omega) (by omega) (by omega) (by omega) hQ

theorem gElS_writes {TS sz eb k ctr m n c b i : Nat} {zs : List Value} {c0 : Code} {bs : List UInt8} {body : Code → Code} (hS : Sl X.P TS sz eb zs) {a : Act} {w : World} {ds : List UInt8} (hst : SA X a w ds)
    (hk0 : gt a k = .slice (some ⟨b, 0, none⟩) n c) (hc : gt a ctr = .int .i64 (i : Nat)) (hin : i < n) (h6 : X.fs < k) (hk : k + 3 ≤ X.M0) (hm : X.M0 ≤ m) (hcm : ctr < m) (hN : m + 4 ≤ X.N) (hct : X.M0 ≤ ctr)
    (hbody : ∀ c a1, SA X a1 w ds → gt a1 (k + 2) = .pointer (some ⟨b, i * sz, none⟩) → Writes X (body c) bs (k + 3) (m + 4) a1 w ds) : Writes X (gElS TS k ctr m body c0) bs (k + 1) m a w ds := by
  have hfs := X.fs_le
  intro Q hQ
  have hs := hst.size
  refine wp_seq (gCopy_wp (by omega) (by omega) fun a1 g1 v1 => ?_)
  rw [hc] at v1
  have k1 : gt a1 k = .slice (some ⟨b, 0, none⟩) n c := (g1.keep k (by omega)).trans hk0
  have st1 : SA X a1 w ds := hst.act g1 (by omega) (by omega) (by omega)
  have f1 : Ag (Cw X.M0 (k + 1) m) a a1 := g1.mono fun j hj => by unfold Cw; omega
  refine wp_seq (wp_reg (wpC_val (runs_move _) ?_))
  have z1 : m + 1 < a1.tmps.size := by rw [g1.size]; omega
  rw [evT, k1]
  have g2 := (Ag.refl (Tm m) a1).put (d := m + 1) (by unfold Tm; omega) z1 (.slice (some ⟨b, 0, none⟩) n c)
  have e2 : gt (a1.put (some (m + 1)) (.slice (some ⟨b, 0, none⟩) n c)) (m + 1) = .slice (some ⟨b, 0, none⟩) n c := by rw [gt_put z1, if_pos rfl]
  have i2 : gt (a1.put (some (m + 1)) (.slice (some ⟨b, 0, none⟩) n c)) (k + 1) = .int .i64 (i : Nat) := by rw [gt_put z1, if_neg (by omega)]; exact v1
  generalize a1.put (some (m + 1)) (.slice (some ⟨b, 0, none⟩) n c) = a2 at g2 e2 i2
  refine wpC_val (runs_move _) ?_
  rw [evT, i2]
  have z2 : m + 2 < a2.tmps.size := by rw [g2.size, g1.size]; omega
  have g3 := g2.put (d := m + 2) (by unfold Tm; omega) z2 (.int .i64 (i : Nat))
  have e3 : gt (a2.put (some (m + 2)) (.int .i64 (i : Nat))) (m + 2) = .int .i64 (i : Nat) := by rw [gt_put z2, if_pos rfl]
  have e3b : gt (a2.put (some (m + 2)) (.int .i64 (i : Nat))) (m + 1) = .slice (some ⟨b, 0, none⟩) n c := by rw [gt_put z2, if_neg (by omega)]; exact e2
  generalize a2.put (some (m + 2)) (.int .i64 (i : Nat)) = a3 at g3 e3 e3b
  refine wpC_val (runs_indexAddr hS (p := ⟨b, 0, none⟩) e3b e3 (by omega) (by omega)) ?_
  rw [Addr.add_lit, Int.toNat_natCast, Nat.zero_add]
  have z3 : m + 3 < a3.tmps.size := by rw [g3.size, g1.size]; omega
  have g4 := g3.put (d := m + 3) (by unfold Tm; omega) z3 (.pointer (some ⟨b, i * sz, none⟩))
  have e4 : gt (a3.put (some (m + 3)) (.pointer (some ⟨b, i * sz, none⟩))) (m + 3) = .pointer (some ⟨b, i * sz, none⟩) := by rw [gt_put z3, if_pos rfl]
  generalize a3.put (some (m + 3)) (.pointer (some ⟨b, i * sz, none⟩)) = a4 at g4 e4
  refine wpC_val (runs_assign _) (wpC_nil ?_)
  rw [evT, e4]
  have z5 : k + 2 < a4.tmps.size := by rw [g4.size, g1.size]; omega
  have g6 := (g4.mono (S' := fun j => j = k + 2 ∨ m ≤ j) fun j hj => .inr hj).put (d := k + 2) (by omega) z5 (.pointer (some ⟨b, i * sz, none⟩))
  have e6 : gt (a4.put (some (k + 2)) (.pointer (some ⟨b, i * sz, none⟩))) (k + 2) = .pointer (some ⟨b, i * sz, none⟩) := by rw [gt_put z5, if_pos rfl]
  generalize a4.put (some (k + 2)) (.pointer (some ⟨b, i * sz, none⟩)) = a6 at g6 e6
  have st6 : SA X a6 w ds := st1.act g6 (by omega) (by omega) (by omega)
  have f6 : Ag (Cw X.M0 (k + 1) m) a a6 := f1.trans (g6.mono fun j hj => by unfold Cw; omega)
  exact hbody _ a6 st6 e6 Q fun a' w' p1 p2 p3 => hQ a' w' (f6.trans (p1.cw (by omega) (by omega))) p2 p3

/-- The whole code of a list. -/
theorem arr_writes {T i o TS eb s k m b off lo hi bt : Nat} {zs : List Value} {l : AL} {em : M} {nr : Bool} {el : Code → Code} {c1 c2 c3 : Code} {x : Val} {a : Act} {w : World} {ds : List UInt8} (hl : l.ok X.P X.G.u8 X.fx) (hf : FieldAt X.P T i o TS 1) (hS : Sl X.P TS zs.length eb zs) (hst : SA X a w ds)
    (hs : gt a s = .pointer (some ⟨b, off, none⟩)) (hH : Holds X.D (.arr (l.c X.flex) l.nl nr zs.length em) w lo hi b (off + o) x) (hw : wf (M.arr (l.c X.flex) l.nl nr zs.length em).w x) (hbB : b < X.base) (hhi : hi ≤ X.base) (hD : X.D < X.base) (h6 : X.fs < k) (hsk : s < k) (h1s : s ≠ 1) (hk : k + 3 ≤ X.M0) (hm : X.M0 ≤ m) (hN : m + 4 + l.t + 5 + bt ≤ X.N)
    (hlen : ds.length + (enc (M.arr (l.c X.flex) l.nl nr zs.length em).w x).length + 16 ≤ lim2)
    (hbody : ∀ c a1 w1 ds1 A cap n i v lo1, Holds X.D em w1 (lo1 : Nat × Nat).1 lo1.2 A (i * zs.length) v → wf em.w v → SA X a1 w1 ds1 → gt a1 k = .slice (some ⟨A, 0, none⟩) n cap → gt a1 (m + 4 + l.t + 2) = .int .i64 (i : Nat) → i < n → A < X.base → lo1.2 ≤ X.base → ds1.length + (enc em.w v).length + 16 ≤ lim2 → Writes X (el c) (enc em.w v) (k + 1) (m + 4 + l.t + 4) a1 w1 ds1) :
    Writes X (.seq (gLoad T i TS s k m c1) (.seq (gALen X.G TS k (m + 4) l c2) (gRange X.G TS k (m + 4 + l.t) bt el c3))) (enc (M.arr (l.c X.flex) l.nl nr zs.length em).w x) k m a w ds := by
  have hfs := X.fs_le
  intro Q hQ
  have hsz := hst.size
  have hT : ∃ e, X.P.underlying TS = some (.slice e) := by obtain ⟨E, hE, _⟩ := hS.ex; exact ⟨E, hE⟩
  obtain ⟨hle, cs, hcs, hL⟩ := hH
  -- what the list is
  have main : ∀ (p : Option Addr) (vs : List Val) (cap : Nat), cs = [.slice p vs.length cap] → enc (M.arr (l.c X.flex) l.nl nr zs.length em).w x = cntEnc (l.c X.flex) 4 (if l.nl && p.isNone then none else some vs.length) ++ ((vs.map (enc em.w)).flatten) → vs.length ≤ 2147483646 →
      (∀ i v, vs[i]? = some v → ∃ A, p = some ⟨A, 0, none⟩ ∧ A < X.base ∧ lo ≤ A ∧ wf em.w v ∧ ∃ lh : Nat × Nat, A < lh.1 ∧ lh.2 ≤ hi ∧ Holds X.D em w lh.1 lh.2 A (i * zs.length) v) →
      (Code.seq (gLoad T i TS s k m c1) (.seq (gALen X.G TS k (m + 4) l c2) (gRange X.G TS k (m + 4 + l.t) bt el c3))).wp X.P Q a w := by
    intro p vs cap hcsv henc hvl hels
    subst hcsv
    rw [henc, List.length_append] at hlen
    refine wp_seq (gLoad_wp hs hf hS.one (by simpa using hcs 0 _ rfl) (by omega) (by omega) fun a1 g1 v1 => ?_)
    have st1 : SA X a1 w ds := hst.act g1 (by omega) (by omega) (by omega)
    have f1 : Ag (Cw X.M0 k m) a a1 := g1.mono fun j hj => by unfold Cw; omega
    refine wp_seq (gALen_wp (k0 := k + 1) (m0 := m) l hT hl st1 (Ag.refl _ _) v1 hvl (by omega) (by omega) (by omega) (by omega) (by omega) (by omega) (by omega) fun a2 w2 g2 o2 st2 => ?_)
    have k2 : gt a2 k = .slice p vs.length cap := (g2.keep k (by unfold Cw; omega)).trans v1
    refine range_wp (em := em) hT st2 k2 (by omega) (by omega) (by omega) (by omega) (by omega) (by rw [List.length_append]; omega) (fun c a3 w3 ds3 i v hv st3 q1 q2 q3 q4 Q3 hQ3 => ?_) fun a3 w3 g3 o3 st3 => ?_
    · obtain ⟨A, hp, hA, hA2, hwv, lh, b1, b2, b3⟩ := hels i v hv
      have o13 : Only (fun j => X.base ≤ j) w w3 := o2.trans q3
      have hb0 := hst.base
      have hH3 : Holds X.D em w3 lh.1 lh.2 A (i * zs.length) v := b3.keep (o13.block _ (by omega) (by omega)) (fun q q1 q2 => o13.block q (by omega) (by omega)) fun _ _ => World.cell?_of_block (w := w) (o13.block A (by omega) (by omega))
      exact hbody c a3 w3 ds3 A cap vs.length i v lh hH3 hwv st3 (by rw [q2.keep k (by unfold Cw; omega), k2, hp]) q1 (List.getElem?_eq_some_iff.1 hv).1 hA (by omega) q4 Q3 hQ3
    · refine hQ a3 w3 ((f1.trans (g2.cw (by omega) (by omega))).trans (g3.cw (by omega) (by omega))) (o2.trans o3) ?_
      rw [henc, ← List.append_assoc]; exact st3
  rcases hL with ⟨hnl, rfl, rfl⟩ | ⟨hnl, rfl, rfl⟩ | ⟨vs, A, cap, rfl, rfl, hA1, hA2, f, hf2⟩
  · refine main none [] 0 rfl ?_ (by simp) (fun i v hv => by simp at hv)
    simp [enc, M.w, hnl]
  · refine main none [] 0 rfl ?_ (by simp) (fun i v hv => by simp at hv)
    simp [enc, M.w, hnl]
  · simp only [M.w, wf] at hw
    refine main (some ⟨A, 0, none⟩) vs cap rfl ?_ hw.1 fun i v hv => ⟨A, rfl, by omega, hA1, hw.2 v (List.mem_iff_getElem?.2 ⟨i, hv⟩), f i, hf2 i v hv⟩
    simp [enc, M.w]
end
end Go.Proofs.YtfimokbgggimmaaDoor.Kf
