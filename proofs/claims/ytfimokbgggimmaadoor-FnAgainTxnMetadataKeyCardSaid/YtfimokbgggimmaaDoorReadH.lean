/- Reading, the eighth part: THE THEOREM: the code of a part's fields reads just what the form says, and no more. -/
import Derived.Test.YtfimokbgggimmaaDoorReadG
namespace Go.Proofs.YtfimokbgggimmaaDoor.Kf
set_option linter.unusedVariables false
set_option linter.unusedSimpArgs false
open Go Go.RowKit

section
variable {X : RX}

theorem St.bad_nil {a : Act} {w : World} {nn : Bool} {bs : List UInt8} (hst : St X a w nn bs true) : nn = false ∧ bs = [] := by
  obtain ⟨sv, e, q1, q2, q3, q4⟩ := hst.st
  have hnn := q4 rfl
  refine ⟨hnn, ?_⟩
  rcases q2 with ⟨_, _, q2⟩ | ⟨q2, _⟩
  · exact q2
  · rw [hnn] at q2; cases q2

theorem RQ.unit {k m b off lo hi : Nat} {a : Act} {w : World} {nn : Bool} {bs : List UInt8} {bad : Bool} {Q : Exit → Act → World → Prop} (hst : St X a w nn bs bad)
    (hQ : RQ X (dec M.unit.w) (fun w' lo hi x => Holds X.D .unit w' lo hi b off x) k m b lo hi a w bs bad Q) : Q .normal a w := by
  cases bad with
  | true =>
    obtain ⟨rfl, rfl⟩ := hst.bad_nil
    exact hQ.fail a w (.inl rfl) (Ag.refl _ _) (Only.refl _ _) (Upd.same rfl) hst
  | false => exact hQ.good a w .unit bs nn rfl rfl (Ag.refl _ _) (Only.refl _ _) (Upd.same rfl) hst ⟨rfl, Nat.le_refl _⟩

/-- A step ahead of the reading that leaves the reader alone. -/
theorem RQ.pre {mm : M} {k m b off lo hi lo' hi' : Nat} {a : Act} {w w1 : World} {nn : Bool} {bs : List UInt8} {bad : Bool} {Q : Exit → Act → World → Prop}
    (hQ : RQ X (dec mm.w) (fun w' lo hi x => Holds X.D mm w' lo hi b off x) k m b lo hi a w bs bad Q) (ho : Only (fun j => j = X.rb ∨ j = b) w w1) (hu : Upd b lo hi w w1) (h1 : lo ≤ lo') (h2 : hi' ≤ hi) :
    RQ X (dec mm.w) (fun w' lo hi x => Holds X.D mm w' lo hi b off x) k m b lo' hi' a w1 bs bad Q :=
  ⟨fun a' w' x bs' nn' p1 p2 p3 p4 p5 p6 p7 => hQ.good a' w' x bs' nn' p1 p2 p3 (ho.trans p4) (hu.trans (p5.mono h1 h2)) p6 (p7.wider ho.size (Nat.le_refl _)),
   fun a' w' p1 p2 p3 p4 p5 => hQ.fail a' w' p1 p2 (ho.trans p3) (hu.trans (p4.mono h1 h2)) p5, fun a' w' p1 p2 p3 p4 p5 => hQ.ret a' w' p1 p2 p3 (ho.trans p4) (hu.trans (p5.mono h1 h2))⟩

theorem gEl_reads (hX : XOk X) {TS sz eb as is D PT k m b n cap i : Nat} {zs : List Value} {ks : List Nat} {body : Code → Code} {mm : M} {c0 : Code} {a : Act} {w : World} {nn : Bool} {bs : List UInt8} {bad : Bool}
    (hst : St X a w nn bs bad) (hS : Sl X.P TS sz eb zs) (ha : gt a as = .slice (some ⟨b, 0, none⟩) n cap) (hi : gt a is = .int .i32 (i : Nat)) (hin : i < n) (hcap : n ≤ cap) (hb : Blk w b (cap * sz)) (hbr : b ≠ X.rb) (hbD : (X.L ≤ b ∧ b ≠ X.D))
    (hD : DefC X.P D sz ks) (hcs : Cells w b (i * sz) zs) (hzs : ∀ q ∈ ks, ∃ v, zs[q]? = some v ∧ isNilS v = true) (hak : as < k) (hik : is < k) (hk : k + 2 ≤ X.M0) (h9 : 9 < k) (hm : X.M0 ≤ m) (hN : m + 6 ≤ X.N)
    (hbody : ∀ c a1 w1 nn1, St X a1 w1 nn1 bs bad → gt a1 (k + 1) = .pointer (some ⟨b, i * sz, none⟩) → Blk w1 b (cap * sz) → (∀ q ∈ ks, w1.cell? ⟨b, i * sz + q, none⟩ = some (.slice none 0 0)) →
      Reads X (body c) (dec mm.w) (fun w' lo hi x => Holds X.D mm w' lo hi b (i * sz) x) (k + 2) (m + 6) b (i * sz) (i * sz + sz) a1 w1 bs bad) :
    Reads X (gEl TS as is D PT k m body c0) (dec mm.w) (fun w' lo hi x => Holds X.D mm w' lo hi b (i * sz) x) k m b (i * sz) (i * sz + sz) a w bs bad := by
  intro Q hQ
  have hrb := hst.rb_gt
  have hrl := hst.st.lt
  have hbl := hb.lt
  have hle : i * sz + sz ≤ cap * sz := by
    have : (i + 1) * sz ≤ cap * sz := Nat.mul_le_mul_right _ (by omega)
    rwa [Nat.add_mul, Nat.one_mul] at this
  refine wp_seq (wp_reg (wpC_val (runs_move _) ?_))
  have z0 : m < a.tmps.size := by rw [hst.size]; omega
  rw [evT, ha]
  have g1 := (Ag.refl (Ch X.M0 k m) a).put (d := m) (by unfold Ch; omega) z0 (.slice (some ⟨b, 0, none⟩) n cap)
  have e1 : gt (a.put (some m) (.slice (some ⟨b, 0, none⟩) n cap)) m = .slice (some ⟨b, 0, none⟩) n cap := by rw [gt_put z0, if_pos rfl]
  have i1 : gt (a.put (some m) (.slice (some ⟨b, 0, none⟩) n cap)) is = .int .i32 (i : Nat) := by rw [gt_put z0, if_neg (by omega)]; exact hi
  generalize a.put (some m) (.slice (some ⟨b, 0, none⟩) n cap) = a1 at g1 e1 i1
  refine wpC_val (runs_move _) ?_
  rw [evT, i1]
  have z1 : m + 1 < a1.tmps.size := by rw [g1.size, hst.size]; omega
  have g2 := g1.put (d := m + 1) (by unfold Ch; omega) z1 (.int .i32 (i : Nat))
  have e2 : gt (a1.put (some (m + 1)) (.int .i32 (i : Nat))) (m + 1) = .int .i32 (i : Nat) := by rw [gt_put z1, if_pos rfl]
  have e2b : gt (a1.put (some (m + 1)) (.int .i32 (i : Nat))) m = .slice (some ⟨b, 0, none⟩) n cap := by rw [gt_put z1, if_neg (by omega)]; exact e1
  generalize a1.put (some (m + 1)) (.int .i32 (i : Nat)) = a2 at g2 e2 e2b
  refine wpC_val (runs_indexAddr hS (p := ⟨b, 0, none⟩) e2b e2 (by omega) (by omega)) ?_
  rw [Addr.add_lit, Int.toNat_natCast, Nat.zero_add]
  have z2 : m + 2 < a2.tmps.size := by rw [g2.size, hst.size]; omega
  have g3 := g2.put (d := m + 2) (by unfold Ch; omega) z2 (.pointer (some ⟨b, i * sz, none⟩))
  have e3 : gt (a2.put (some (m + 2)) (.pointer (some ⟨b, i * sz, none⟩))) (m + 2) = .pointer (some ⟨b, i * sz, none⟩) := by rw [gt_put z2, if_pos rfl]
  generalize a2.put (some (m + 2)) (.pointer (some ⟨b, i * sz, none⟩)) = a3 at g3 e3
  refine wpC_val (runs_assign _) (wpC_nil ?_)
  rw [evT, e3]
  have z3 : k < a3.tmps.size := by rw [g3.size, hst.size]; omega
  have g4 := g3.put (d := k) (by unfold Ch; omega) z3 (.pointer (some ⟨b, i * sz, none⟩))
  have e4 : gt (a3.put (some k) (.pointer (some ⟨b, i * sz, none⟩))) k = .pointer (some ⟨b, i * sz, none⟩) := by rw [gt_put z3, if_pos rfl]
  generalize a3.put (some k) (.pointer (some ⟨b, i * sz, none⟩)) = a4 at g4 e4
  -- the defaults
  refine wp_seq (wp_reg (wpC_val (runs_move _) ?_))
  rw [evT, e4]
  have z4 : m + 3 < a4.tmps.size := by rw [g4.size, hst.size]; omega
  have g5 := g4.put (d := m + 3) (by unfold Ch; omega) z4 (.pointer (some ⟨b, i * sz, none⟩))
  have e5 : gt (a4.put (some (m + 3)) (.pointer (some ⟨b, i * sz, none⟩))) (m + 3) = .pointer (some ⟨b, i * sz, none⟩) := by rw [gt_put z4, if_pos rfl]
  have e5k : gt (a4.put (some (m + 3)) (.pointer (some ⟨b, i * sz, none⟩))) k = .pointer (some ⟨b, i * sz, none⟩) := by rw [gt_put z4, if_neg (by omega)]; exact e4
  generalize a4.put (some (m + 3)) (.pointer (some ⟨b, i * sz, none⟩)) = a5 at g5 e5 e5k
  have harg : (#[Operand.tmp (m + 3)] : Array Operand).map a5.eval = #[.pointer (some ⟨b, i * sz, none⟩)] := by
    simp only [gt] at e5
    simp [Act.eval, e5]
  refine wpC_call (R := fun _ w' => Only (· = b) w w' ∧ Upd b (i * sz) (i * sz + sz) w w' ∧ ∀ o ∈ ks, w'.cell? ⟨b, i * sz + o, none⟩ = w.cell? ⟨b, i * sz + o, none⟩) hD.1 (by rw [harg]; exact hD.2 w b (i * sz) (cap * sz) hb hle) ?_
  rintro v6 w6 ⟨o6, u6, k6⟩
  have z5 : m + 4 < a5.tmps.size := by rw [g5.size, hst.size]; omega
  have g6 := g5.put (d := m + 4) (by unfold Ch; omega) z5 v6
  have e6 : gt (a5.put (some (m + 4)) v6) k = .pointer (some ⟨b, i * sz, none⟩) := by rw [gt_put z5, if_neg (by omega)]; exact e5k
  generalize a5.put (some (m + 4)) v6 = a6 at g6 e6
  refine wpC_nil (wp_seq (gCopy_wp (by rw [g6.size, hst.size]; omega) (by rw [g6.size, hst.size]; omega) fun a7 g7 v7 => ?_))
  have f7 : Ag (Ch X.M0 k m) a a7 := g6.trans (g7.mono fun j hj => by unfold Ch; omega)
  rw [e6] at v7
  have st7 : St X a7 w6 nn bs bad := (hst.act f7 h9 (by omega) (by omega)).world (hst.st.keep (o6.block _ (by omega) (by omega)) (o6.block _ hrl (by omega))) (Nat.le_refl _) (o6.mono fun q _ e => by omega)
  refine hbody _ a7 w6 nn st7 v7 (u6.blk hb) (fun q hq => ?_) Q ?_
  · obtain ⟨v, hv, hnil⟩ := hzs q hq
    rw [k6 q hq, hcs q v hv, isNilS_eq hnil]
  · exact (hQ.act f7 (by omega) (by omega)).pre (nn := nn) (o6.mono fun q _ e => .inr e) u6 (Nat.le_refl _) (Nat.le_refl _)

theorem gTags_reads (hX : XOk X) {F T i o u s k m b off N : Nat} {c0 : Code} {a : Act} {w : World} {nn : Bool} {bs : List UInt8} {bad : Bool} (hfx : X.fx = true) (hfl : X.flex = true) (hF : RdC X.P F .tags) (hst : St X a w nn bs bad)
    (hs : gt a s = .pointer (some ⟨b, off, none⟩)) (hf : FieldAt X.P T i o u 1) (hb : Blk w b N) (hn : off + o + 1 ≤ N) (hbr : b ≠ X.rb) (hbD : (X.L ≤ b ∧ b ≠ X.D)) (h9 : 9 < k) (hsk : s < k) (hk : k ≤ X.M0) (hm : X.M0 ≤ m) (hN : m + 5 ≤ X.N) :
    Reads X (gTags X.G F T i u s m c0) (dec M.tags.w) (fun w' lo hi x => Holds X.D .tags w' lo hi b (off + o) x) k m b (off + o) (off + o + 1) a w bs bad := by
  intro Q hQ
  have hM := hX.N0
  have hrb := hst.rb_gt
  have hbl := hb.lt
  have z0 : m < a.tmps.size := by rw [hst.size]; omega
  refine wp_seq (gMove_wp (X := X) z0 ?_)
  have g1 := (Ag.refl (Ch X.M0 (m + 2) m) a).put (d := m) (by unfold Ch; omega) z0 (gt a 9)
  have e1 : gt (a.put (some m) (gt a 9)) m = .bool true := by rw [gt_put z0, if_pos rfl, hst.fl hfx, hfl]
  generalize a.put (some m) (gt a 9) = a1 at g1 e1
  refine wp_cond_true e1 (wp_reg (wpC_val (runs_move _) ?_))
  have z1 : m + 1 < a1.tmps.size := by rw [g1.size, hst.size]; omega
  rw [evT, show gt a1 s = .pointer (some ⟨b, off, none⟩) from (g1.keep s (by unfold Ch; omega)).trans hs]
  have g2 := g1.put (d := m + 1) (by unfold Ch; omega) z1 (.pointer (some ⟨b, off, none⟩))
  have e2 : gt (a1.put (some (m + 1)) (.pointer (some ⟨b, off, none⟩))) (m + 1) = .pointer (some ⟨b, off, none⟩) := by rw [gt_put z1, if_pos rfl]
  generalize a1.put (some (m + 1)) (.pointer (some ⟨b, off, none⟩)) = a2 at g2 e2
  have st2 := hst.act g2 (by omega) (by omega) (by omega)
  refine wpC_call (R := fun v w' => v.cells.size = RK.tags.n ∧ (∀ c ∈ v.cells.toList, c.oneCell' = true) ∧ Only (· = X.rb) w w' ∧ Comes1 X.D X.rb bs bad w' RK.tags.dec (fun x => RK.tags.leaf X.D w' w.heap.size w'.heap.size v.cells.toList x)) hF.1 (by rw [argRd st2]; exact hF.2 X.D X.rb w nn bs bad hst.st hst.lim) ?_
  rintro v w1 ⟨hv1, hv2, ho1, hc1⟩
  have z2 : m + 2 < a2.tmps.size := by rw [g2.size, hst.size]; omega
  have g3 := g2.put (d := m + 2) (by unfold Ch; omega) z2 v
  have e3 : gt (a2.put (some (m + 2)) v) (m + 2) = v := by rw [gt_put z2, if_pos rfl]
  have e3b : gt (a2.put (some (m + 2)) v) (m + 1) = .pointer (some ⟨b, off, none⟩) := by rw [gt_put z2, if_neg (by omega)]; exact e2
  generalize a2.put (some (m + 2)) v = a3 at g3 e3 e3b
  refine wpC_val (runs_nilCheck (p := ⟨b, off, none⟩) e3b) ?_
  have z3 : m + 3 < a3.tmps.size := by rw [g3.size, hst.size]; omega
  have g4 := g3.put (d := m + 3) (by unfold Ch; omega) z3 (.pointer (some ⟨b, off, none⟩))
  have e4 : gt (a3.put (some (m + 3)) (.pointer (some ⟨b, off, none⟩))) (m + 3) = .pointer (some ⟨b, off, none⟩) := by rw [gt_put z3, if_pos rfl]
  have e4b : gt (a3.put (some (m + 3)) (.pointer (some ⟨b, off, none⟩))) (m + 2) = v := by rw [gt_put z3, if_neg (by omega)]; exact e3
  generalize a3.put (some (m + 3)) (.pointer (some ⟨b, off, none⟩)) = a4 at g4 e4 e4b
  refine wpC_val (runs_fieldAddr hf (p := ⟨b, off, none⟩) e4) ?_
  rw [Addr.add_lit]
  have z4 : m + 4 < a4.tmps.size := by rw [g4.size, hst.size]; omega
  have g5 := g4.put (d := m + 4) (by unfold Ch; omega) z4 (.pointer (some ⟨b, off + o, none⟩))
  have e5 : gt (a4.put (some (m + 4)) (.pointer (some ⟨b, off + o, none⟩))) (m + 4) = .pointer (some ⟨b, off + o, none⟩) := by rw [gt_put z4, if_pos rfl]
  have e5b : gt (a4.put (some (m + 4)) (.pointer (some ⟨b, off + o, none⟩))) (m + 2) = v := by rw [gt_put z4, if_neg (by omega)]; exact e4b
  generalize a4.put (some (m + 4)) (.pointer (some ⟨b, off + o, none⟩)) = a5 at g5 e5 e5b
  have hvs : v.cells.size = 1 := hv1
  obtain ⟨w2, hr, hw⟩ := runs_storeN (P := X.P) (a := a5) (w := w1) (u := u) (x := .tmp (m + 4)) (y := .tmp (m + 2)) (b := b) (o := off + o) (n := N) (v := v) e5 e5b (by obtain ⟨inf, hi, hz⟩ := hf.sz; exact ⟨inf, hi, hz.trans hvs.symm⟩) hv2 (hb.keep (ho1.block b hbl hbr)) (by omega)
  refine wpC_skip hr (wpC_nil ?_)
  have g : Got X .tags (m + 2) m a w bs bad a5 w1 v := ⟨g5, e5b, hv1, hv2, ho1, hc1⟩
  obtain ⟨h1, h2, h3, h4⟩ := g.store hst hw hbl hbr hbD
  have hlen : v.cells.toList.length = 1 := by simpa using hvs
  rw [hlen] at h2
  have hag : Ag (Ch X.M0 k m) a a5 := g5.ch (by omega) (Nat.le_refl _)
  have hst2 := hst.act hag h9 (by omega) (by omega)
  rcases h4 with ⟨hbad, x, bs', hd, hl, hx, nn', hr⟩ | ⟨hbad, hr⟩
  · exact hQ.good a5 w2 x bs' nn' hbad hd hag h1 h2 (hst2.world hr hl h3) hx
  · exact hQ.fail a5 w2 hbad hag h1 h2 (hst2.world hr (by simp) h3)

theorem RV.n_flex (v : RV) (f g : Bool) : (v.rk f).n = (v.rk g).n := by cases v <;> rfl
theorem RK.cells_le (k : RK) : k.m.cells ≤ k.n := Nat.le_refl _

theorem R.nils_ge {P : Program} {fx : Bool} : ∀ {r : R} {T lo hi : Nat}, r.ok P fx T lo hi → (∀ q ∈ r.nils, lo ≤ q) ∧ lo ≤ hi := by
  intro r
  induction r with
  | done => intro T lo hi h; exact ⟨fun q hq => by simp [R.nils] at hq, h⟩
  | val c i o u v r ih =>
    intro T lo hi h
    obtain ⟨h1, h2, h3, h4⟩ := h
    obtain ⟨a1, a2⟩ := ih h4
    exact ⟨fun q hq => by have := a1 q hq; omega, by omega⟩
  | arrV c i o TS eb zs l nl u v r ih =>
    intro T lo hi h
    obtain ⟨h1, h2, h3, h4, h5, h6, h7, h8, h9⟩ := h
    obtain ⟨a1, a2⟩ := ih h9
    refine ⟨fun q hq => ?_, by omega⟩
    simp only [R.nils, List.mem_cons] at hq
    rcases hq with rfl | hq
    · exact h1
    · have := a1 q hq; omega
  | arrS c i o TS eb zs l nl D PT T' b r _ ih =>
    intro T lo hi h
    obtain ⟨h1, h2, h3, h4, h5, h6, h7, h8, h9⟩ := h
    obtain ⟨a1, a2⟩ := ih h9
    refine ⟨fun q hq => ?_, by omega⟩
    simp only [R.nils, List.mem_cons] at hq
    rcases hq with rfl | hq
    · exact h1
    · have := a1 q hq; omega
  | tags i o u F r ih =>
    intro T lo hi h
    obtain ⟨h1, h2, h3, h4, h5⟩ := h
    obtain ⟨a1, a2⟩ := ih h5
    exact ⟨fun q hq => by have := a1 q hq; omega, by omega⟩

theorem R.cells_le {P : Program} {fx : Bool} {ver : Int} {flex : Bool} : ∀ {r : R} {T lo hi : Nat}, r.ok P fx T lo hi → (r.m ver flex).cells ≤ hi := by
  intro r
  induction r with
  | done => intro T lo hi h; simp [R.m, M.cells]
  | val c i o u v r ih =>
    intro T lo hi h
    obtain ⟨h1, h2, h3, h4⟩ := h
    have a1 := ih h4
    have a2 := (R.nils_ge h4).2
    have a3 := RV.n_flex v flex true
    simp only [R.m]
    split
    · simp only [M.cells]
      have : (v.rk flex).m.cells = (v.rk flex).n := rfl
      omega
    · exact a1
  | arrV c i o TS eb zs l nl u v r ih =>
    intro T lo hi h
    obtain ⟨h1, h2, h3, h4, h5, h6, h7, h8, h9⟩ := h
    have a1 := ih h9
    have a2 := (R.nils_ge h9).2
    simp only [R.m]
    split
    · simp only [M.cells]; omega
    · exact a1
  | arrS c i o TS eb zs l nl D PT T' b r _ ih =>
    intro T lo hi h
    obtain ⟨h1, h2, h3, h4, h5, h6, h7, h8, h9⟩ := h
    have a1 := ih h9
    have a2 := (R.nils_ge h9).2
    simp only [R.m]
    split
    · simp only [M.cells]; omega
    · exact a1
  | tags i o u F r ih =>
    intro T lo hi h
    obtain ⟨h1, h2, h3, h4, h5⟩ := h
    have a1 := ih h5
    have a2 := (R.nils_ge h5).2
    simp only [R.m]
    split
    · simp only [M.cells]; omega
    · exact a1

/-- What a part's reading asks of the place where it begins. -/
structure At (X : RX) (r : R) (T s k m b off N lo hi : Nat) (a : Act) (w : World) (nn : Bool) (bs : List UInt8) (bad : Bool) : Prop where
  st : St X a w nn bs bad
  sp : gt a s = .pointer (some ⟨b, off, none⟩)
  blk : Blk w b N
  room : off + hi ≤ N
  nil : ∀ q ∈ r.nils, w.cell? ⟨b, off + q, none⟩ = some (.slice none 0 0)
  nrb : b ≠ X.rb
  nD : (X.L ≤ b ∧ b ≠ X.D)
  k9 : 9 < k
  sk : s < k
  kM : k + r.k ≤ X.M0
  m0 : X.M0 ≤ m
  mN : m + r.t ≤ X.N

/-- The same behind a field. -/
theorem At.next {r r2 : R} {T s k m b off N lo hi k2 m2 lo1 hi1 : Nat} {a a1 : Act} {w w1 : World} {nn nn1 : Bool} {bs bs1 : List UInt8} {bad bad1 : Bool} (h : At X r T s k m b off N lo hi a w nn bs bad) (hag : Ag (Ch X.M0 k m) a a1)
    (ho : Only (fun j => j = X.rb ∨ j = b) w w1) (hu : Upd b lo1 hi1 w w1) (hst : St X a1 w1 nn1 bs1 bad1) (hn2 : ∀ q ∈ r2.nils, q ∈ r.nils ∧ hi1 ≤ off + q) (hk : k ≤ k2) (hkM : k2 + r2.k ≤ X.M0) (hm : m ≤ m2) (hmN : m2 + r2.t ≤ X.N) : At X r2 T s k2 m2 b off N lo hi a1 w1 nn1 bs1 bad1 := by
  have h1 := h.sk
  have h2 := h.m0
  have h3 := h.kM
  have h4 := h.k9
  exact ⟨hst, (hag.keep s (by unfold Ch; omega)).trans h.sp, hu.blk h.blk, h.room, fun q hq => by
    obtain ⟨q1, q2⟩ := hn2 q hq
    rw [hu.cell h.blk (.inr q2)]; exact h.nil q q1, h.nrb, h.nD, by omega, by omega, hkM, by omega, hmN⟩

theorem isDone_eq {r : R} (h : r.isDone = true) : r = .done := by cases r <;> first | rfl | cases h

/-- THE THEOREM. -/
theorem R_reads (hX : XOk X) : ∀ (r : R) (T s k m b off N lo hi : Nat) (tail : Option (Code → Code)) (c0 : Code) (a : Act) (w : World) (nn : Bool) (bs : List UInt8) (bad : Bool),
    r.ok X.P X.fx T lo hi → At X r T s k m b off N lo hi a w nn bs bad →
    ∀ Q, RQ X (dec (r.m X.ver X.flex).w) (fun w' lo hi x => Holds X.D (r.m X.ver X.flex) w' lo hi b off x) k m b (off + lo) (off + hi) a w bs bad (tq X.P tail Q) → (gR X.G r T s k m tail c0).wp X.P Q a w := by
  intro r
  induction r with
  | done =>
    intro T s k m b off N lo hi tail c0 a w nn bs bad hr hA Q hQ
    have := RQ.unit hA.st (hQ : RQ X (dec M.unit.w) _ k m b (off + lo) (off + hi) a w bs bad _)
    cases tail with
    | none => exact wp_skip this
    | some t => exact this c0
  | val c i o u v r ih =>
    intro T s k m b off N lo hi tail c0 a w nn bs bad hr hA Q hQ
    obtain ⟨h1, h2, h3, h4⟩ := hr
    have hM := hX.N0
    have hk := hA.kM
    have hm := hA.mN
    have hm0 := hA.m0
    have hk9 := hA.k9
    have hsk := hA.sk
    have hnN := hA.room
    simp only [R.k] at hk
    simp only [R.t] at hm
    have hrh := (R.nils_ge h4)
    have hnf := RV.n_flex v X.flex true
    have hlast : (r.isDone && tail.isNone) = true → tail = none ∧ r.m X.ver X.flex = .unit := by
      intro h
      rw [Bool.and_eq_true] at h
      rw [isDone_eq h.1]
      exact ⟨Option.isNone_iff_eq_none.1 h.2, rfl⟩
    simp only [R.m] at hQ
    cases hc : c.holds X.ver with
    | true =>
      rw [hc, if_pos rfl] at hQ
      refine R_step (k2 := k + 1) (m2 := m + (c.t + (v.t + 4))) (n := (v.rk X.flex).n) (N := N) hA.st hA.blk hA.nrb hA.nD (by omega) (by omega) h1 (Nat.le_refl _) (by omega) (fun c1 => gCond_reads hA.st (by omega) (by omega) hc fun c2 a' ha => ?_) hlast (fun _ a1 w1 nn1 bs1 bad1 p1 p2 p3 p4 c1 Q1 hQ1 => ?_) hQ
      · have ha' : Ag (Ch X.M0 k m) a a' := ha.mono fun j hj => by unfold Ch; omega
        exact fVal_reads v h2 (hA.st.act ha' hk9 (by omega) (by omega)) ((ha'.keep s (by unfold Ch; omega)).trans hA.sp) (h3 X.flex) hA.blk (by omega) hA.nrb hA.nD hk9 hsk (by omega) (by omega) (by omega)
      · rw [hnf] at hQ1
        exact ih T s (k + 1) (m + (c.t + (v.t + 4))) b off N (o + (v.rk true).n) hi tail c1 a1 w1 nn1 bs1 bad1 h4 (by
          have hx := hA.next (r2 := r) (k2 := k + 1) (m2 := m + (c.t + (v.t + 4))) p1 p2 p3 p4 (fun q hq => ⟨hq, by have := hrh.1 q hq; omega⟩) (by omega) (by omega) (by omega) (by omega)
          exact ⟨hx.st, hx.sp, hx.blk, hx.room, hx.nil, hx.nrb, hx.nD, hx.k9, hx.sk, hx.kM, hx.m0, hx.mN⟩) Q1 hQ1
    | false =>
      rw [hc, if_neg (by decide)] at hQ
      refine R_skip (k2 := k + 1) (m2 := m + (c.t + (v.t + 4))) (lo2 := o + (v.rk true).n) hA.st (by omega) (by omega) (by omega) hk9 (by omega) (by omega) (fun c1 Q1 h => gCond_wp hA.st.ver (by omega) (by rw [hA.st.size]; omega) (fun hy => by rw [hc] at hy; cases hy) fun _ a' ha => h a' (ha.mono fun j hj => by unfold Ch; omega)) hlast
        (fun _ a1 p1 p4 c1 Q1 hQ1 => ih T s (k + 1) (m + (c.t + (v.t + 4))) b off N (o + (v.rk true).n) hi tail c1 a1 w nn bs bad h4 (by
          have hx := hA.next (r2 := r) (k2 := k + 1) (m2 := m + (c.t + (v.t + 4))) (lo1 := 0) (hi1 := 0) p1 (Only.refl _ _) (Upd.same rfl) p4 (fun q hq => ⟨hq, by omega⟩) (by omega) (by omega) (by omega) (by omega)
          exact ⟨hx.st, hx.sp, hx.blk, hx.room, hx.nil, hx.nrb, hx.nD, hx.k9, hx.sk, hx.kM, hx.m0, hx.mN⟩) Q1 hQ1) hQ
  | arrV c i o TS eb zs l nl u v r ih =>
    intro T s k m b off N lo hi tail c0 a w nn bs bad hr hA Q hQ
    obtain ⟨h1, h2, h3, h4, h5, h6, h7, h8, hr9⟩ := hr
    have hM := hX.N0
    have hk := hA.kM
    have hm := hA.mN
    have hm0 := hA.m0
    have hk9 := hA.k9
    have hsk := hA.sk
    have hnN := hA.room
    simp only [R.k] at hk
    simp only [R.t] at hm
    have hrh := (R.nils_ge hr9)
    have hlast : (r.isDone && tail.isNone) = true → tail = none ∧ r.m X.ver X.flex = .unit := by
      intro h
      rw [Bool.and_eq_true] at h
      rw [isDone_eq h.1]
      exact ⟨Option.isNone_iff_eq_none.1 h.2, rfl⟩
    have hnils : ∀ q ∈ r.nils, q ∈ (R.arrV c i o TS eb zs l nl u v r).nils := fun q hq => by simp only [R.nils, List.mem_cons]; exact .inr hq
    simp only [R.m] at hQ
    cases hc : c.holds X.ver with
    | true =>
      rw [hc, if_pos rfl] at hQ
      refine R_step (k2 := k + 5) (m2 := m + (c.t + arrT l nl (v.t + 4))) (n := 1) (N := N) hA.st hA.blk hA.nrb hA.nD (by omega) (by omega) h1 (Nat.le_refl _) (by omega) (fun c1 => gCond_reads hA.st (by omega) (by omega) hc fun c2 a' ha => ?_) hlast (fun _ a1 w1 nn1 bs1 bad1 p1 p2 p3 p4 c1 Q1 hQ1 => ?_) hQ
      · have ha' : Ag (Ch X.M0 k m) a a' := ha.mono fun j hj => by unfold Ch; omega
        refine arr_reads hX (u := u) h3 (hA.st.act ha' hk9 (by omega) (by omega)) ((ha'.keep s (by unfold Ch; omega)).trans hA.sp) h4 h5 h6 (by have := h8 X.flex; exact Nat.le_of_eq this) hA.blk (by omega) (hA.nil o (by simp [R.nils])) hA.nrb hA.nD hk9 hsk (by omega) (by omega) (by omega) ?_
        intro A cap n hAD hAr c3 a3 w3 nn3 bs3 bad3 i3 hi3 st3 q1 q2 q3 q4 q5
        have hle : i3 * zs.length + zs.length ≤ cap * zs.length := by
          have : (i3 + 1) * zs.length ≤ cap * zs.length := Nat.mul_le_mul_right _ (by omega)
          rwa [Nat.add_mul, Nat.one_mul] at this
        unfold arrT at hm
        exact eVal_reads v h5 h2 st3 q1 q2 hi3 h7 (h8 _) q4 hle hAr hAD (by omega) (by omega) (by omega) (by omega) (by omega) (by omega)
      · exact ih T s (k + 5) (m + (c.t + arrT l nl (v.t + 4))) b off N (o + 1) hi tail c1 a1 w1 nn1 bs1 bad1 hr9 (by
          have hx := hA.next (r2 := r) (k2 := k + 5) (m2 := m + (c.t + arrT l nl (v.t + 4))) p1 p2 p3 p4 (fun q hq => ⟨hnils q hq, by have := hrh.1 q hq; omega⟩) (by omega) (by omega) (by omega) (by omega)
          exact ⟨hx.st, hx.sp, hx.blk, hx.room, hx.nil, hx.nrb, hx.nD, hx.k9, hx.sk, hx.kM, hx.m0, hx.mN⟩) Q1 hQ1
    | false =>
      rw [hc, if_neg (by decide)] at hQ
      refine R_skip (k2 := k + 5) (m2 := m + (c.t + arrT l nl (v.t + 4))) (lo2 := o + 1) hA.st (by omega) (by omega) (by omega) hk9 (by omega) (by omega) (fun c1 Q1 h => gCond_wp hA.st.ver (by omega) (by rw [hA.st.size]; omega) (fun hy => by rw [hc] at hy; cases hy) fun _ a' ha => h a' (ha.mono fun j hj => by unfold Ch; omega)) hlast
        (fun _ a1 p1 p4 c1 Q1 hQ1 => ih T s (k + 5) (m + (c.t + arrT l nl (v.t + 4))) b off N (o + 1) hi tail c1 a1 w nn bs bad hr9 (by
          have hx := hA.next (r2 := r) (k2 := k + 5) (m2 := m + (c.t + arrT l nl (v.t + 4))) (lo1 := 0) (hi1 := 0) p1 (Only.refl _ _) (Upd.same rfl) p4 (fun q hq => ⟨hnils q hq, by omega⟩) (by omega) (by omega) (by omega) (by omega)
          exact ⟨hx.st, hx.sp, hx.blk, hx.room, hx.nil, hx.nrb, hx.nD, hx.k9, hx.sk, hx.kM, hx.m0, hx.mN⟩) Q1 hQ1) hQ
  | arrS c i o TS eb zs l nl D PT T' b' r ihb ih =>
    intro T s k m b off N lo hi tail c0 a w nn bs bad hr hA Q hQ
    obtain ⟨h1, h3, h4, h5, h6, h7, h8, hb9, hr9⟩ := hr
    have hM := hX.N0
    have hk := hA.kM
    have hm := hA.mN
    have hm0 := hA.m0
    have hk9 := hA.k9
    have hsk := hA.sk
    have hnN := hA.room
    simp only [R.k] at hk
    simp only [R.t] at hm
    have hrh := (R.nils_ge hr9)
    have hlast : (r.isDone && tail.isNone) = true → tail = none ∧ r.m X.ver X.flex = .unit := by
      intro h
      rw [Bool.and_eq_true] at h
      rw [isDone_eq h.1]
      exact ⟨Option.isNone_iff_eq_none.1 h.2, rfl⟩
    have hnils : ∀ q ∈ r.nils, q ∈ (R.arrS c i o TS eb zs l nl D PT T' b' r).nils := fun q hq => by simp only [R.nils, List.mem_cons]; exact .inr hq
    simp only [R.m] at hQ
    cases hc : c.holds X.ver with
    | true =>
      rw [hc, if_pos rfl] at hQ
      refine R_step (k2 := k + (6 + b'.k)) (m2 := m + (c.t + arrT l nl (6 + b'.t))) (n := 1) (N := N) hA.st hA.blk hA.nrb hA.nD (by omega) (by omega) h1 (Nat.le_refl _) (by omega) (fun c1 => gCond_reads hA.st (by omega) (by omega) hc fun c2 a' ha => ?_) hlast (fun _ a1 w1 nn1 bs1 bad1 p1 p2 p3 p4 c1 Q1 hQ1 => ?_) hQ
      · have ha' : Ag (Ch X.M0 k m) a a' := ha.mono fun j hj => by unfold Ch; omega
        refine arr_reads hX (u := 0) h3 (hA.st.act ha' hk9 (by omega) (by omega)) ((ha'.keep s (by unfold Ch; omega)).trans hA.sp) h4 h5 h6 (R.cells_le hb9) hA.blk (by omega) (hA.nil o (by simp [R.nils])) hA.nrb hA.nD hk9 hsk (by omega) (by omega) (by omega) ?_
        intro A cap n hAD hAr c3 a3 w3 nn3 bs3 bad3 i3 hi3 st3 q1 q2 q3 q4 q5
        have hle : i3 * zs.length + zs.length ≤ cap * zs.length := by
          have : (i3 + 1) * zs.length ≤ cap * zs.length := Nat.mul_le_mul_right _ (by omega)
          rwa [Nat.add_mul, Nat.one_mul] at this
        unfold arrT at hm
        refine gEl_reads hX st3 h5 q1 q2 hi3 q3 q4 hAr hAD h7 q5 h8 (by omega) (by omega) (by omega) (by omega) (by omega) (by omega) ?_
        intro c4 a4 w4 nn4 st4 p1 p2 p3 Q4 hQ4
        exact ihb T' (k + 5) (k + 6) (m + c.t + 5 + l.t + nullT nl + 10 + 5 + 6) A (i3 * zs.length) (cap * zs.length) 0 zs.length none c4 a4 w4 nn4 bs3 bad3 hb9 ⟨st4, p1, p2, by omega, p3, hAr, hAD, by omega, by omega, by omega, by omega, by omega⟩ Q4 hQ4
      · exact ih T s (k + (6 + b'.k)) (m + (c.t + arrT l nl (6 + b'.t))) b off N (o + 1) hi tail c1 a1 w1 nn1 bs1 bad1 hr9 (by
          have hx := hA.next (r2 := r) (k2 := k + (6 + b'.k)) (m2 := m + (c.t + arrT l nl (6 + b'.t))) p1 p2 p3 p4 (fun q hq => ⟨hnils q hq, by have := hrh.1 q hq; omega⟩) (by omega) (by omega) (by omega) (by omega)
          exact ⟨hx.st, hx.sp, hx.blk, hx.room, hx.nil, hx.nrb, hx.nD, hx.k9, hx.sk, hx.kM, hx.m0, hx.mN⟩) Q1 hQ1
    | false =>
      rw [hc, if_neg (by decide)] at hQ
      refine R_skip (k2 := k + (6 + b'.k)) (m2 := m + (c.t + arrT l nl (6 + b'.t))) (lo2 := o + 1) hA.st (by omega) (by omega) (by omega) hk9 (by omega) (by omega) (fun c1 Q1 h => gCond_wp hA.st.ver (by omega) (by rw [hA.st.size]; omega) (fun hy => by rw [hc] at hy; cases hy) fun _ a' ha => h a' (ha.mono fun j hj => by unfold Ch; omega)) hlast
        (fun _ a1 p1 p4 c1 Q1 hQ1 => ih T s (k + (6 + b'.k)) (m + (c.t + arrT l nl (6 + b'.t))) b off N (o + 1) hi tail c1 a1 w nn bs bad hr9 (by
          have hx := hA.next (r2 := r) (k2 := k + (6 + b'.k)) (m2 := m + (c.t + arrT l nl (6 + b'.t))) (lo1 := 0) (hi1 := 0) p1 (Only.refl _ _) (Upd.same rfl) p4 (fun q hq => ⟨hnils q hq, by omega⟩) (by omega) (by omega) (by omega) (by omega)
          exact ⟨hx.st, hx.sp, hx.blk, hx.room, hx.nil, hx.nrb, hx.nD, hx.k9, hx.sk, hx.kM, hx.m0, hx.mN⟩) Q1 hQ1) hQ
  | tags i o u F r ih =>
    intro T s k m b off N lo hi tail c0 a w nn bs bad hr hA Q hQ
    obtain ⟨h1, hfx, h3, h4, h5⟩ := hr
    have hM := hX.N0
    have hk := hA.kM
    have hm := hA.mN
    have hm0 := hA.m0
    have hk9 := hA.k9
    have hsk := hA.sk
    have hnN := hA.room
    simp only [R.k] at hk
    simp only [R.t] at hm
    have hrh := (R.nils_ge h5)
    have hlast : (r.isDone && tail.isNone) = true → tail = none ∧ r.m X.ver X.flex = .unit := by
      intro h
      rw [Bool.and_eq_true] at h
      rw [isDone_eq h.1]
      exact ⟨Option.isNone_iff_eq_none.1 h.2, rfl⟩
    simp only [R.m] at hQ
    cases hc : X.flex with
    | true =>
      rw [hc, if_pos rfl] at hQ
      refine R_step (k := k) (m := m) (lo := lo) (hi := hi) (b := b) (off := off) (o := o) (mR := r.m X.ver X.flex) (k2 := k) (m2 := m + 5) (n := 1) (N := N) (mF := .tags) hA.st hA.blk hA.nrb hA.nD (by omega) (by omega) h1 (Nat.le_refl _) (by omega) (fun c1 => ?_) hlast (fun _ a1 w1 nn1 bs1 bad1 p1 p2 p3 p4 c1 Q1 hQ1 => ?_) (by rw [hc]; exact hQ)
      · exact gTags_reads hX hfx hc h3 hA.st hA.sp h4 hA.blk (by omega) hA.nrb hA.nD hk9 hsk (by omega) (by omega) (by omega)
      · exact ih T s k (m + 5) b off N (o + 1) hi tail c1 a1 w1 nn1 bs1 bad1 h5 (by
          have hx := hA.next (r2 := r) (k2 := k) (m2 := m + 5) p1 p2 p3 p4 (fun q hq => ⟨hq, by have := hrh.1 q hq; omega⟩) (by omega) (by omega) (by omega) (by omega)
          exact ⟨hx.st, hx.sp, hx.blk, hx.room, hx.nil, hx.nrb, hx.nD, hx.k9, hx.sk, hx.kM, hx.m0, hx.mN⟩) Q1 hQ1
    | false =>
      rw [hc, if_neg (by decide)] at hQ
      refine R_skip (k := k) (m := m) (lo := lo) (hi := hi) (b := b) (off := off) (k2 := k) (m2 := m + 5) (lo2 := o + 1) hA.st (by omega) (by omega) (by omega) hk9 (by omega) (by omega) (fun c1 Q1 h => ?_) hlast
        (fun _ a1 p1 p4 c1 Q1 hQ1 => ih T s k (m + 5) b off N (o + 1) hi tail c1 a1 w nn bs bad h5 (by
          have hx := hA.next (r2 := r) (k2 := k) (m2 := m + 5) (lo1 := 0) (hi1 := 0) p1 (Only.refl _ _) (Upd.same rfl) p4 (fun q hq => ⟨hq, by omega⟩) (by omega) (by omega) (by omega) (by omega)
          exact ⟨hx.st, hx.sp, hx.blk, hx.room, hx.nil, hx.nrb, hx.nD, hx.k9, hx.sk, hx.kM, hx.m0, hx.mN⟩) Q1 hQ1) (by rw [hc]; exact hQ)
      have z0 : m < a.tmps.size := by rw [hA.st.size]; omega
      refine wp_seq (gMove_wp (X := X) z0 (wp_cond_false (by rw [evT, gt_put z0, if_pos rfl, hA.st.fl hfx, hc]) (wp_skip (h _ ((Ag.refl (Ch X.M0 k m) a).put (d := m) (by unfold Ch; omega) z0 _)))))
end
end Go.Proofs.YtfimokbgggimmaaDoor.Kf
