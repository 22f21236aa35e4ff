/- Reading, the seventh part: the fields of a part, one after the other; the theorem. -/
import Derived.Test.YtfimokbgggimmaaDoorReadF
namespace Go.Proofs.YtfimokbgggimmaaDoor.Kf
set_option linter.unusedVariables false
set_option linter.unusedSimpArgs false
open Go Go.RowKit

/-- The function F sets a part of so many cells to its defaults; the cells at ks stay. -/
def DefC (P : Program) (F sz : Nat) (ks : List Nat) : Prop := Plain P F ∧ ∀ (w : World) (b off N : Nat), Blk w b N → off + sz ≤ N →
  Calls P F #[.pointer (some ⟨b, off, none⟩)] w fun e w' => ∃ v, e = .returned v ∧ (Only (· = b) w w' ∧ Upd b off (off + sz) w w' ∧ ∀ o ∈ ks, w'.cell? ⟨b, off + o, none⟩ = w.cell? ⟨b, off + o, none⟩)

inductive R
  | done
  | val (c : Cond) (i o u : Nat) (v : RV) (rest : R)
  | arrV (c : Cond) (i o TS eb : Nat) (zs : List Value) (l : Fl) (nl : Option Int) (u : Nat) (v : RV) (rest : R)
  | arrS (c : Cond) (i o TS eb : Nat) (zs : List Value) (l : Fl) (nl : Option Int) (D PT T : Nat) (body rest : R)
  | tags (i o u F : Nat) (rest : R)

def R.isDone : R → Bool
  | .done => true
  | _ => false

/-- How many variables, how many temporaries. -/
def R.k : R → Nat
  | .done => 0
  | .val _ _ _ _ _ r => 1 + r.k
  | .arrV _ _ _ _ _ _ _ _ _ _ r => 5 + r.k
  | .arrS _ _ _ _ _ _ _ _ _ _ _ b r => 6 + b.k + r.k
  | .tags _ _ _ _ r => r.k
def R.t : R → Nat
  | .done => 0
  | .val c _ _ _ v r => c.t + (v.t + 4) + r.t
  | .arrV c _ _ _ _ _ l nl _ v r => c.t + arrT l nl (v.t + 4) + r.t
  | .arrS c _ _ _ _ _ l nl _ _ _ b r => c.t + arrT l nl (6 + b.t) + r.t
  | .tags _ _ _ _ r => 5 + r.t

/-- The places of its lists. -/
def R.nils : R → List Nat
  | .done => []
  | .val _ _ _ _ _ r => r.nils
  | .arrV _ _ o _ _ _ _ _ _ _ r => o :: r.nils
  | .arrS _ _ o _ _ _ _ _ _ _ _ _ r => o :: r.nils
  | .tags _ _ _ _ r => r.nils

def R.m (ver : Int) (flex : Bool) : R → M
  | .done => .unit
  | .val c _ o _ v r => if c.holds ver then .fld o (v.rk flex).m (r.m ver flex) else r.m ver flex
  | .arrV c _ o _ _ zs l nl _ v r => if c.holds ver then .fld o (.arr (l.c flex) nl.isSome (nullR ver nl) zs.length (v.rk flex).m) (r.m ver flex) else r.m ver flex
  | .arrS c _ o _ _ zs l nl _ _ _ b r => if c.holds ver then .fld o (.arr (l.c flex) nl.isSome (nullR ver nl) zs.length (b.m ver flex)) (r.m ver flex) else r.m ver flex
  | .tags _ o _ _ r => if flex then .fld o .tags (r.m ver flex) else r.m ver flex

def isNilS : Value → Bool
  | .slice none 0 0 => true
  | _ => false

theorem isNilS_eq {v : Value} (h : isNilS v = true) : v = .slice none 0 0 := by
  unfold isNilS at h
  split at h
  · rfl
  · cases h

/-- What the numbers in it must be, in a program; T: the part's own type; its cells lie from lo on and below hi. -/
def R.ok (P : Program) (fx : Bool) : R → Nat → Nat → Nat → Prop
  | .done, _, lo, hi => lo ≤ hi
  | .val _ i o u v r, T, lo, hi => lo ≤ o ∧ v.ok P fx ∧ (∀ flex, FieldAt P T i o u (v.rk flex).n) ∧ r.ok P fx T (o + (v.rk true).n) hi
  | .arrV _ i o TS eb zs l _ u v r, T, lo, hi => lo ≤ o ∧ v.ok P fx ∧ l.ok P fx ∧ FieldAt P T i o TS 1 ∧ Sl P TS zs.length eb zs ∧ eb ≤ 2048 ∧ (∃ inf, P.info? u = some inf ∧ inf.size = zs.length) ∧ (∀ flex, (v.rk flex).n = zs.length) ∧ r.ok P fx T (o + 1) hi
  | .arrS _ i o TS eb zs l _ D _ T' b r, T, lo, hi => lo ≤ o ∧ l.ok P fx ∧ FieldAt P T i o TS 1 ∧ Sl P TS zs.length eb zs ∧ eb ≤ 2048 ∧ DefC P D zs.length b.nils ∧ (∀ q ∈ b.nils, ∃ v, zs[q]? = some v ∧ isNilS v = true) ∧ b.ok P fx T' 0 zs.length ∧ r.ok P fx T (o + 1) hi
  | .tags i o u F r, T, lo, hi => lo ≤ o ∧ fx = true ∧ RdC P F .tags ∧ FieldAt P T i o u 1 ∧ r.ok P fx T (o + 1) hi

def join (f : Code → Code) (last : Bool) (g : Code → Code) (c : Code) : Code := if last then f c else .seq (f (pc c [0])) (g (pc c [1]))

/-- The code of a list's thing that is a part. -/
def gEl (TS as is D PT k m : Nat) (body : Code → Code) (c : Code) : Code :=
  .seq (reg [⟨some m, .move (.tmp as), none⟩, ⟨some (m + 1), .move (.tmp is), none⟩, ⟨some (m + 2), .indexAddr TS (.tmp m) (.tmp (m + 1)), none⟩, ⟨some k, .assign (.tmp (m + 2)), none⟩] (pc c [0]))
  (.seq (reg [⟨some (m + 3), .move (.tmp k), none⟩, ⟨some (m + 4), .call ⟨.value (.func D), #[.tmp (m + 3)], #[PT]⟩, none⟩] (pc c [1, 0]))
  (.seq (gCopy k (k + 1) (m + 5) (pc c [1, 1, 0])) (body (pc c [1, 1, 1]))))

def gTags (G : Gn) (F T i u s m : Nat) (c : Code) : Code :=
  .seq (gMove 9 m (pc c [0])) (.cond (.tmp m) (reg [⟨some (m + 1), .move (.tmp s), none⟩, ⟨some (m + 2), .call ⟨.value (.func F), #[.tmp 7], #[G.rp]⟩, none⟩, ⟨some (m + 3), .nilCheck (.tmp (m + 1)), none⟩, ⟨some (m + 4), .fieldAddr T (.tmp (m + 3)) i, none⟩, ⟨none, .store u (.tmp (m + 4)) (.tmp (m + 2)), none⟩] (pc c [1, 0])) .skip)

def gR (G : Gn) : R → (T s k m : Nat) → Option (Code → Code) → Code → Code
  | .done, _, _, _, _, tail, c => match tail with | some t => t c | none => .skip
  | .val cd i _ u v r, T, s, k, m, tail, c => join (gCond G.i16 8 m (gRV G k (m + cd.t) (sinkF T i u s k (m + cd.t + v.t)) v) cd) (r.isDone && tail.isNone) (gR G r T s (k + 1) (m + (cd.t + (v.t + 4))) tail) c
  | .arrV cd i _ TS _ _ l nl u v r, T, s, k, m, tail, c => join (gCond G.i16 8 m (gArr G T i TS l nl s k (m + cd.t) (v.t + 4) (gRV G (k + 4) (m + cd.t + 5 + l.t + nullT nl + 10 + 5) (sinkI TS u (k + 1) (k + 3) (k + 4) (m + cd.t + 5 + l.t + nullT nl + 10 + 5 + v.t)) v)) cd)
      (r.isDone && tail.isNone) (gR G r T s (k + 5) (m + (cd.t + arrT l nl (v.t + 4))) tail) c
  | .arrS cd i _ TS _ _ l nl D PT T' b r, T, s, k, m, tail, c => join (gCond G.i16 8 m (gArr G T i TS l nl s k (m + cd.t) (6 + b.t) (gEl TS (k + 1) (k + 3) D PT (k + 4) (m + cd.t + 5 + l.t + nullT nl + 10 + 5)
        (gR G b T' (k + 5) (k + 6) (m + cd.t + 5 + l.t + nullT nl + 10 + 5 + 6) none))) cd)
      (r.isDone && tail.isNone) (gR G r T s (k + (6 + b.k)) (m + (cd.t + arrT l nl (6 + b.t))) tail) c
  | .tags i _ u F r, T, s, k, m, tail, c => join (gTags G F T i u s m) (r.isDone && tail.isNone) (gR G r T s k (m + 5) tail) c

section
variable {X : RX}

/-- Behind all fields: what follows in the code, if something does. -/
def tq (P : Program) (tail : Option (Code → Code)) (Q : Exit → Act → World → Prop) : Exit → Act → World → Prop :=
  match tail with
  | none => Q
  | some t => Exit.then (fun a w => ∀ c, (t c).wp P Q a w) Q

theorem RQ.act {dc : List UInt8 → Option (Val × List UInt8)} {H : World → Nat → Nat → Val → Prop} {k m k' m' b lo hi : Nat} {a a' : Act} {w : World} {bs : List UInt8} {bad : Bool} {Q : Exit → Act → World → Prop}
    (h : RQ X dc H k m b lo hi a w bs bad Q) (ha : Ag (Ch X.M0 k m) a a') (hk : k ≤ k') (hm : m ≤ m') : RQ X dc H k' m' b lo hi a' w bs bad Q :=
  ⟨fun a1 w1 x bs' nn' h1 h2 h3 => h.good a1 w1 x bs' nn' h1 h2 (ha.trans (h3.ch hk hm)), fun a1 w1 h1 h2 => h.fail a1 w1 h1 (ha.trans (h2.ch hk hm)), h.ret⟩

theorem gCond_reads {cd : Cond} {m k : Nat} {body : Code → Code} {dc : List UInt8 → Option (Val × List UInt8)} {H : World → Nat → Nat → Val → Prop} {b lo hi : Nat} {a : Act} {w : World} {nn : Bool} {bs : List UInt8} {bad : Bool} (hst : St X a w nn bs bad)
    (h8 : 8 < m) (hN : m + cd.t ≤ X.N) (hc : cd.holds X.ver = true) (h : ∀ c a', Ag (fun j => m ≤ j ∧ j < m + cd.t) a a' → Reads X (body c) dc H k (m + cd.t) b lo hi a' w bs bad) {c0 : Code} : Reads X (gCond X.G.i16 8 m body cd c0) dc H k m b lo hi a w bs bad := by
  intro Q hQ
  refine gCond_wp hst.ver h8 (by rw [hst.size]; exact hN) (fun _ c a' ha => ?_) fun hno => by rw [hc] at hno; cases hno
  exact h c a' ha Q (hQ.act (ha.mono fun j hj => by unfold Ch; omega) (Nat.le_refl _) (by omega))

theorem join_last {f g : Code → Code} {c : Code} : join f true g c = f c := rfl
theorem join_more {f g : Code → Code} {c : Code} : join f false g c = .seq (f (pc c [0])) (g (pc c [1])) := rfl

/-- A field that the version has, and what follows. -/
theorem R_step {F g : Code → Code} {last : Bool} {tail : Option (Code → Code)} {mF mR : M} {k m k2 m2 b off o n lo hi N : Nat} {a : Act} {w : World} {nn : Bool} {bs : List UInt8} {bad : Bool} {c : Code}
    (hst : St X a w nn bs bad) (hb : Blk w b N) (hbr : b ≠ X.rb) (hbD : (X.L ≤ b ∧ b ≠ X.D)) (hk : k ≤ k2) (hm : m ≤ m2) (hlo : lo ≤ o) (hcells : mF.cells ≤ n) (hon : o + n ≤ hi)
    (hF : ∀ c, Reads X (F c) (dec mF.w) (fun w' lo hi x => Holds X.D mF w' lo hi b (off + o) x) k m b (off + o) (off + o + n) a w bs bad)
    (hlast : last = true → tail = none ∧ mR = .unit)
    (hR : last = false → ∀ a1 w1 nn1 bs1 bad1, Ag (Ch X.M0 k m) a a1 → Only (fun j => j = X.rb ∨ j = b) w w1 → Upd b (off + o) (off + o + n) w w1 → St X a1 w1 nn1 bs1 bad1 → ∀ c Q, RQ X (dec mR.w) (fun w' lo hi x => Holds X.D mR w' lo hi b off x) k2 m2 b (off + (o + n)) (off + hi) a1 w1 bs1 bad1 (tq X.P tail Q) → (g c).wp X.P Q a1 w1)
    {Q : Exit → Act → World → Prop} (hQ : RQ X (dec (M.fld o mF mR).w) (fun w' lo hi x => Holds X.D (M.fld o mF mR) w' lo hi b off x) k m b (off + lo) (off + hi) a w bs bad (tq X.P tail Q)) : (join F last g c).wp X.P Q a w := by
  have hrb := hst.rb_gt
  cases hl : last with
  | true =>
    obtain ⟨rfl, rfl⟩ := hlast hl
    rw [join_last]
    refine hF c Q ⟨fun a1 w1 x bs' nn' h1 h2 h3 h4 h5 h6 h7 => ?_, fun a1 w1 h1 h2 h3 h4 h5 => ?_, fun a1 w1 h1 h2 h3 h4 h5 => ?_⟩
    · exact hQ.good a1 w1 (.pair x .unit) bs' nn' h1 (by simp only [M.w, dec, h2]) h3 h4 (h5.mono (by omega) (by omega)) h6 ⟨_, x, .unit, rfl, h7, rfl, Nat.le_refl _⟩
    · exact hQ.fail a1 w1 (h1.imp id fun h => by simp only [M.w, dec, h]) h2 h3 (h4.mono (by omega) (by omega)) h5
    · exact hQ.ret a1 w1 (h1.imp id fun h => by simp only [M.w, dec, h]) h2 h3 h4 (h5.mono (by omega) (by omega))
  | false =>
    rw [join_more]
    have hex : ∀ {a' w'}, tq X.P tail Q .ret a' w' → Q .ret a' w' := by
      intro a' w' h; cases tail <;> exact h
    refine wp_seq (hF _ _ ⟨fun a1 w1 x bs' nn' h1 h2 h3 h4 h5 h6 h7 => ?_, fun a1 w1 h1 h2 h3 h4 h5 => ?_, fun a1 w1 h1 h2 h3 h4 h5 => ?_⟩)
    · refine hR hl a1 w1 nn' bs' false h3 h4 h5 h6 _ Q ⟨fun a2 w2 y bs2 nn2 _ p2 p3 p4 p5 p6 p7 => ?_, fun a2 w2 p1 p2 p3 p4 p5 => ?_, fun a2 w2 p1 p2 p3 p4 p5 => ?_⟩
      · refine hQ.good a2 w2 (.pair x y) bs2 nn2 h1 (by simp only [M.w, dec, h2, p2]) (h3.trans (p3.ch hk hm)) (h4.trans p4) ((h5.mono (by omega) (by omega)).trans (p5.mono (by omega) (by omega))) p6 ⟨w1.heap.size, x, y, rfl, ?_, p7⟩
        have hl1 := h4.size
        have hrl := hst.st.lt
        have hbl := hb.lt
        refine h7.keep (p4.block _ (by omega) (by omega)) (fun q q1 q2 => p4.block q q2 (by omega)) fun j hj => p5.cell (h5.blk hb) (.inl (by omega))
      · exact hQ.fail a2 w2 (.inr (by rcases p1 with p1 | p1; cases p1; simp only [M.w, dec, h2, p1])) (h3.trans (p2.ch hk hm)) (h4.trans p3) ((h5.mono (by omega) (by omega)).trans (p4.mono (by omega) (by omega))) p5
      · exact hQ.ret a2 w2 (.inr (by rcases p1 with p1 | p1; cases p1; simp only [M.w, dec, h2, p1])) p2 p3 (h4.trans p4) ((h5.mono (by omega) (by omega)).trans (p5.mono (by omega) (by omega)))
    · have hbad : bad = true ∨ dec (M.fld o mF mR).w bs = none := h1.imp id fun h => by simp only [M.w, dec, h]
      refine hR hl a1 w1 false [] true h2 h3 h4 h5 _ Q ⟨fun a2 w2 y bs2 nn2 p1 => (nomatch p1), fun a2 w2 p1 p2 p3 p4 p5 => ?_, fun a2 w2 p1 p2 p3 p4 p5 => ?_⟩
      · exact hQ.fail a2 w2 hbad (h2.trans (p2.ch hk hm)) (h3.trans p3) ((h4.mono (by omega) (by omega)).trans (p4.mono (by omega) (by omega))) p5
      · exact hQ.ret a2 w2 hbad p2 p3 (h3.trans p4) ((h4.mono (by omega) (by omega)).trans (p5.mono (by omega) (by omega)))
    · exact hex (hQ.ret a1 w1 (h1.imp id fun h => by simp only [M.w, dec, h]) h2 h3 h4 (h5.mono (by omega) (by omega)))

/-- A field that the version has not. -/
theorem R_skip {F g : Code → Code} {last : Bool} {tail : Option (Code → Code)} {mR : M} {k m k2 m2 b off lo lo2 hi : Nat} {a : Act} {w : World} {nn : Bool} {bs : List UInt8} {bad : Bool} {c : Code}
    (hst : St X a w nn bs bad) (hk : k ≤ k2) (hm : m ≤ m2) (hlo : lo ≤ lo2) (h9 : 9 < k) (hm9 : 9 < m) (hM : 9 < X.M0)
    (hF : ∀ c Q, (∀ a1, Ag (Ch X.M0 k m) a a1 → Q .normal a1 w) → (F c).wp X.P Q a w)
    (hlast : last = true → tail = none ∧ mR = .unit)
    (hR : last = false → ∀ a1, Ag (Ch X.M0 k m) a a1 → St X a1 w nn bs bad → ∀ c Q, RQ X (dec mR.w) (fun w' lo hi x => Holds X.D mR w' lo hi b off x) k2 m2 b (off + lo2) (off + hi) a1 w bs bad (tq X.P tail Q) → (g c).wp X.P Q a1 w)
    {Q : Exit → Act → World → Prop} (hQ : RQ X (dec mR.w) (fun w' lo hi x => Holds X.D mR w' lo hi b off x) k m b (off + lo) (off + hi) a w bs bad (tq X.P tail Q)) : (join F last g c).wp X.P Q a w := by
  cases hl : last with
  | true =>
    obtain ⟨rfl, rfl⟩ := hlast hl
    rw [join_last]
    refine hF c Q fun a1 h1 => ?_
    have st1 := hst.act h1 h9 hm9 hM
    cases hb : bad with
    | true =>
      subst hb
      have : bs = [] := by
        obtain ⟨sv, e, q1, q2, q3, q4⟩ := hst.st
        have hnn := q4 rfl
        rcases q2 with ⟨_, _, q2⟩ | ⟨q2, _⟩
        · exact q2
        · rw [hnn] at q2; cases q2
      subst this
      have hnn : nn = false := by
        obtain ⟨sv, e, q1, q2, q3, q4⟩ := hst.st
        exact q4 rfl
      subst hnn
      exact hQ.fail a1 w (.inl rfl) h1 (Only.refl _ _) (Upd.same rfl) st1
    | false => subst hb; exact hQ.good a1 w .unit bs nn rfl rfl h1 (Only.refl _ _) (Upd.same rfl) st1 ⟨rfl, Nat.le_refl _⟩
  | false =>
    rw [join_more]
    refine wp_seq (hF _ _ fun a1 h1 => ?_)
    refine hR hl a1 h1 (hst.act h1 h9 hm9 hM) _ Q ?_
    have := hQ.act (k' := k2) (m' := m2) h1 hk hm
    exact ⟨fun a2 w2 x bs2 nn2 p1 p2 p3 p4 p5 => this.good a2 w2 x bs2 nn2 p1 p2 p3 p4 (p5.mono (by omega) (Nat.le_refl _)), fun a2 w2 p1 p2 p3 p4 => this.fail a2 w2 p1 p2 p3 (p4.mono (by omega) (Nat.le_refl _)), fun a2 w2 p1 p2 p3 p4 p5 => this.ret a2 w2 p1 p2 p3 p4 (p5.mono (by omega) (Nat.le_refl _))⟩
end
end Go.Proofs.YtfimokbgggimmaaDoor.Kf
