/- Writing, the fifth part: THE THEOREM: the code of a part's fields writes just what the form says. -/
import Derived.Test.YtfimokbgggimmaaDoorAppE
namespace Go.Proofs.YtfimokbgggimmaaDoor.Kf
set_option linter.unusedVariables false
set_option linter.unusedSimpArgs false
open Go Go.RowKit

section
variable {X : AX}

/-- The types that the code names are what they must be. -/
structure AOk (X : AX) : Prop where
  int : X.P.underlying X.G.int = some (.int .i64)
  u32 : X.P.underlying X.G.u32 = some (.int .u32)
  N0 : 7 ≤ X.M0

structure AtW (X : AX) (r : A) (mm : M) (s k m b off lo hi : Nat) (a : Act) (w : World) (ds : List UInt8) (x : Val) : Prop where
  st : SA X a w ds
  sp : gt a s = .pointer (some ⟨b, off, none⟩)
  hold : Holds X.D mm w lo hi b off x
  wf : wf mm.w x
  len : ds.length + (enc mm.w x).length + 16 ≤ lim2
  bB : b < X.base
  hiB : hi ≤ X.base
  nD : X.D < X.base
  s1 : s ≠ 1
  k6 : X.fs < k
  sk : s < k
  kM : k + r.k ≤ X.M0
  m0 : X.M0 ≤ m
  mN : m + r.t ≤ X.N

theorem AtW.next {r r2 : A} {o : Nat} {mF mR : M} {s k m b off lo hi k2 m2 : Nat} {a a1 : Act} {w w1 : World} {ds : List UInt8} {y z : Val} {mid : Nat} (h : AtW X r (.fld o mF mR) s k m b off lo hi a w ds (.pair y z)) (hy : Holds X.D mF w lo mid b (off + o) y) (hz : Holds X.D mR w mid hi b off z)
    (ha : Ag (Cw X.M0 k m) a a1) (hw : Only (fun j => X.base ≤ j) w w1) (hst : SA X a1 w1 (ds ++ enc mF.w y)) (hk : k ≤ k2) (hkM : k2 + r2.k ≤ X.M0) (hm : m ≤ m2) (hmN : m2 + r2.t ≤ X.N) : AtW X r2 mR s k2 m2 b off mid hi a1 w1 (ds ++ enc mF.w y) z := by
  have hfs := X.fs_le
  have h1 := h.sk
  have h2 := h.m0
  have h3 := h.kM
  have h4 := h.k6
  have h5 := h.len
  have h6 := h.bB
  have h7 := h.hiB
  have h8 := h.nD
  have h9 := h.st.base
  have h10 := h.s1
  simp only [M.w, enc, List.length_append] at h5
  exact ⟨hst, (ha.keep s (by unfold Cw; omega)).trans h.sp, hz.keep (hw.block _ (by omega) (by omega)) (fun q q1 q2 => hw.block q (by omega) (by omega)) (fun _ _ => World.cell?_of_block (w := w) (hw.block b (by omega) (by omega))), h.wf.2, by rw [List.length_append]; omega, h6, h7, h8, h.s1, by omega, by omega, hkM, by omega, hmN⟩

/-- A field that the version has, and what follows. -/
theorem A_step {F g : Code → Code} {last : Bool} {tail : Option (Code → Code)} {r r2 : A} {mF mR : M} {o s k m k2 m2 b off lo hi : Nat} {a : Act} {w : World} {ds : List UInt8} {x : Val} {c : Code} (h : AtW X r (.fld o mF mR) s k m b off lo hi a w ds x) (hk : k ≤ k2) (hkM : k2 + r2.k ≤ X.M0) (hm : m ≤ m2) (hmN : m2 + r2.t ≤ X.N)
    (hF : ∀ c lo1 hi1 y, Holds X.D mF w lo1 hi1 b (off + o) y → wf mF.w y → hi1 ≤ X.base → ds.length + (enc mF.w y).length + 16 ≤ lim2 → Writes X (F c) (enc mF.w y) k m a w ds)
    (hlast : last = true → tail = none ∧ mR = .unit)
    (hR : last = false → ∀ c a1 w1 ds1 lo1 y, AtW X r2 mR s k2 m2 b off lo1 hi a1 w1 ds1 y → ∀ Q, (∀ a' w', Ag (Cw X.M0 k2 m2) a1 a' → Only (fun j => X.base ≤ j) w1 w' → SA X a' w' (ds1 ++ enc mR.w y) → tq X.P tail Q .normal a' w') → (g c).wp X.P Q a1 w1)
    {Q : Exit → Act → World → Prop} (hQ : ∀ a' w', Ag (Cw X.M0 k m) a a' → Only (fun j => X.base ≤ j) w w' → SA X a' w' (ds ++ enc (M.fld o mF mR).w x) → tq X.P tail Q .normal a' w') : (join F last g c).wp X.P Q a w := by
  have hfs := X.fs_le
  obtain ⟨mid, y, z, rfl, hy, hz⟩ := h.hold
  have hzle := hz.le
  have hhi := h.hiB
  have hlen := h.len
  simp only [M.w, enc, List.length_append] at hlen
  cases hl : last with
  | true =>
    obtain ⟨rfl, rfl⟩ := hlast hl
    rw [join_last]
    obtain ⟨rfl, _⟩ := hz
    refine hF c lo mid y hy h.wf.1 (by omega) (by omega) Q fun a1 w1 p1 p2 p3 => hQ a1 w1 p1 p2 ?_
    simpa [M.w, enc] using p3
  | false =>
    rw [join_more]
    refine wp_seq (hF _ lo mid y hy h.wf.1 (by omega) (by omega) _ fun a1 w1 p1 p2 p3 => ?_)
    refine hR hl _ a1 w1 _ mid z (h.next hy hz p1 p2 p3 hk hkM hm hmN) Q fun a2 w2 q1 q2 q3 => hQ a2 w2 (p1.trans (q1.cw hk hm)) (p2.trans q2) ?_
    simpa [M.w, enc, List.append_assoc] using q3

/-- A field that the version has not. -/
theorem A_skip {F g : Code → Code} {last : Bool} {tail : Option (Code → Code)} {r r2 : A} {mR : M} {s k m k2 m2 b off lo hi : Nat} {a : Act} {w : World} {ds : List UInt8} {x : Val} {c : Code} (h : AtW X r mR s k m b off lo hi a w ds x) (hk : k ≤ k2) (hkM : k2 + r2.k ≤ X.M0) (hm : m ≤ m2) (hmN : m2 + r2.t ≤ X.N)
    (hF : ∀ c Q, (∀ a1, Ag (Tm m) a a1 → Q .normal a1 w) → (F c).wp X.P Q a w)
    (hlast : last = true → tail = none ∧ mR = .unit)
    (hR : last = false → ∀ c a1 w1 ds1 lo1 y, AtW X r2 mR s k2 m2 b off lo1 hi a1 w1 ds1 y → ∀ Q, (∀ a' w', Ag (Cw X.M0 k2 m2) a1 a' → Only (fun j => X.base ≤ j) w1 w' → SA X a' w' (ds1 ++ enc mR.w y) → tq X.P tail Q .normal a' w') → (g c).wp X.P Q a1 w1)
    {Q : Exit → Act → World → Prop} (hQ : ∀ a' w', Ag (Cw X.M0 k m) a a' → Only (fun j => X.base ≤ j) w w' → SA X a' w' (ds ++ enc mR.w x) → tq X.P tail Q .normal a' w') : (join F last g c).wp X.P Q a w := by
  have hfs := X.fs_le
  have h1 := h.sk
  have h2 := h.m0
  have h3 := h.kM
  have h4 := h.k6
  have h10 := h.s1
  have st1 : ∀ a1, Ag (Tm m) a a1 → SA X a1 w ds := fun a1 ha => h.st.act ha (by unfold Tm; omega) (by unfold Tm; omega) (by unfold Tm; omega)
  have ag1 : ∀ a1, Ag (Tm m) a a1 → Ag (Cw X.M0 k m) a a1 := fun a1 ha => ha.mono fun j hj => by unfold Tm at hj; unfold Cw; omega
  cases hl : last with
  | true =>
    obtain ⟨rfl, rfl⟩ := hlast hl
    rw [join_last]
    refine hF c Q fun a1 p1 => hQ a1 w (ag1 a1 p1) (Only.refl _ _) ?_
    have := st1 a1 p1
    simpa [M.w, enc] using this
  | false =>
    rw [join_more]
    refine wp_seq (hF _ _ fun a1 p1 => ?_)
    refine hR hl _ a1 w ds lo x ⟨st1 a1 p1, (p1.keep s (by unfold Tm; omega)).trans h.sp, h.hold, h.wf, h.len, h.bB, h.hiB, h.nD, h.s1, by omega, by omega, hkM, by omega, hmN⟩ Q fun a2 w2 q1 q2 q3 => hQ a2 w2 ((ag1 a1 p1).trans (q1.cw hk hm)) q2 q3

theorem A.isDone_eq {r : A} (h : r.isDone = true) : r = .done := by cases r <;> first | rfl | cases h

theorem gCond_writes {cd : Cond} {k m : Nat} {body : Code → Code} {bs : List UInt8} {a : Act} {w : World} {ds : List UInt8} (hst : SA X a w ds) (h6 : 6 < m) (hM : X.M0 ≤ m) (hN : m + cd.t ≤ X.N) (hc : cd.holds X.ver = true)
    (h : ∀ c a', Ag (fun j => m ≤ j ∧ j < m + cd.t) a a' → SA X a' w ds → Writes X (body c) bs k (m + cd.t) a' w ds) {c0 : Code} : Writes X (gCond X.G.i16 5 m body cd c0) bs k m a w ds := by
  have hfs := X.fs_le
  intro Q hQ
  refine gCond_wp hst.ver (by omega) (by rw [hst.size]; exact hN) (fun _ c a' ha => ?_) fun hno => by rw [hc] at hno; cases hno
  have st' : SA X a' w ds := hst.act ha (by omega) (by omega) (by omega)
  exact h c a' ha st' Q fun a2 w2 p1 p2 p3 => hQ a2 w2 ((ha.mono fun j hj => by unfold Cw; omega : Ag (Cw X.M0 k m) a a').trans (p1.cw (Nat.le_refl _) (by omega))) p2 p3

theorem gCond_none {cd : Cond} {m : Nat} {body : Code → Code} {a : Act} {w : World} {ds : List UInt8} (hst : SA X a w ds) (h6 : 6 < m) (hN : m + cd.t ≤ X.N) (hc : cd.holds X.ver = false) {c : Code} {Q : Exit → Act → World → Prop} (h : ∀ a1, Ag (Tm m) a a1 → Q .normal a1 w) : (gCond X.G.i16 5 m body cd c).wp X.P Q a w :=
  gCond_wp hst.ver (by omega) (by rw [hst.size]; exact hN) (fun hy => by rw [hc] at hy; cases hy) fun _ a' ha => h a' (ha.mono fun j hj => by unfold Tm; omega)

/-- THE THEOREM. -/
theorem A_writes (hX : AOk X) : ∀ (r : A) (T s k m b off lo hi : Nat) (tail : Option (Code → Code)) (c0 : Code) (a : Act) (w : World) (ds : List UInt8) (x : Val), r.ok X.P X.G.u8 X.fx T → AtW X r (r.m X.ver X.flex) s k m b off lo hi a w ds x →
    ∀ Q, (∀ a' w', Ag (Cw X.M0 k m) a a' → Only (fun j => X.base ≤ j) w w' → SA X a' w' (ds ++ enc (r.m X.ver X.flex).w x) → tq X.P tail Q .normal a' w') → (gA X.G r T s k m tail c0).wp X.P Q a w := by
  have hfs := X.fs_le
  intro r
  induction r with
  | done =>
    intro T s k m b off lo hi tail c0 a w ds x hr hA Q hQ
    obtain ⟨rfl, _⟩ := hA.hold
    have := hQ a w (Ag.refl _ _) (Only.refl _ _) (by simpa [A.m, M.w, enc] using hA.st)
    cases tail with
    | none => exact wp_skip this
    | some t => exact this c0
  | val c i o u v r ih =>
    intro T s k m b off lo hi tail c0 a w ds x hr hA Q hQ
    obtain ⟨h2, h3, h4⟩ := hr
    have hk := hA.kM
    have hm := hA.mN
    have hm0 := hA.m0
    have hk6 := hA.k6
    have hsk := hA.sk
    have hs1 := hA.s1
    have hM := hX.N0
    simp only [A.k] at hk
    simp only [A.t] at hm
    have hlast : (r.isDone && tail.isNone) = true → tail = none ∧ r.m X.ver X.flex = .unit := by
      intro h
      rw [Bool.and_eq_true] at h
      rw [A.isDone_eq h.1]
      exact ⟨Option.isNone_iff_eq_none.1 h.2, rfl⟩
    simp only [A.m] at hQ hA
    cases hc : c.holds X.ver with
    | true =>
      rw [hc, if_pos rfl] at hQ hA
      refine A_step (r2 := r) (k2 := k + 1) (m2 := m + (c.t + (4 + v.t))) hA (by omega) (by omega) (by omega) (by omega) (fun c1 lo1 hi1 y hy hw hhi hl => gCond_writes hA.st (by omega) hm0 (by omega) hc fun c2 a' ha st' Q2 hQ2 => ?_) hlast (fun _ c1 a1 w1 ds1 lo1 y hA1 Q1 hQ1 => ih T s (k + 1) _ b off lo1 hi tail c1 a1 w1 ds1 y h4 hA1 Q1 hQ1) hQ
      obtain ⟨cs, hc1, hc2⟩ := RK.of_holds hy
      have s' : gt a' s = .pointer (some ⟨b, off, none⟩) := (ha.keep s (by omega)).trans hA.sp
      have sz' := st'.size
      refine wp_seq (gLoadV_wp s' (h3 X.flex).1 (h3 X.flex).2 (RK.leaf_len hc2) hc1 (by omega) (by omega) fun a2 g2 v2 => ?_)
      have st2 : SA X a2 w ds := st'.act g2 (by omega) (by omega) (by omega)
      have f2 : Ag (Cw X.M0 k (m + c.t)) a' a2 := g2.mono fun j hj => by unfold Cw; omega
      exact gAV_wp v h2 st2 f2 v2 hc2 hw (by omega) hk6 (by omega) (by omega) (by omega) (by omega) (by omega) hQ2
    | false =>
      rw [hc, if_neg (by decide)] at hQ hA
      exact A_skip (r2 := r) (k2 := k + 1) (m2 := m + (c.t + (4 + v.t))) hA (by omega) (by omega) (by omega) (by omega) (fun c1 Q1 h => gCond_none hA.st (by omega) (by omega) hc h) hlast (fun _ c1 a1 w1 ds1 lo1 y hA1 Q1 hQ1 => ih T s (k + 1) _ b off lo1 hi tail c1 a1 w1 ds1 y h4 hA1 Q1 hQ1) hQ
  | arrV c i o TS eb zs n l u v r ih =>
    intro T s k m b off lo hi tail c0 a w ds x hr hA Q hQ
    obtain ⟨hnl, h1, h2, h3, h4, h5, h6⟩ := hr
    have hk := hA.kM
    have hm := hA.mN
    have hm0 := hA.m0
    have hk6 := hA.k6
    have hsk := hA.sk
    have hs1 := hA.s1
    have hM := hX.N0
    simp only [A.k] at hk
    simp only [A.t] at hm
    have hlast : (r.isDone && tail.isNone) = true → tail = none ∧ r.m X.ver X.flex = .unit := by
      intro h
      rw [Bool.and_eq_true] at h
      rw [A.isDone_eq h.1]
      exact ⟨Option.isNone_iff_eq_none.1 h.2, rfl⟩
    simp only [A.m] at hQ hA
    cases hc : c.holds X.ver with
    | true =>
      rw [hc, if_pos rfl] at hQ hA
      refine A_step (r2 := r) (k2 := k + 3) (m2 := m + (c.t + (4 + l.t + 5 + (5 + v.t)))) hA (by omega) (by omega) (by omega) (by omega) (fun c1 lo1 hi1 y hy hw hhi hl => gCond_writes hA.st (by omega) hm0 (by omega) hc fun c2 a' ha st' => ?_) hlast (fun _ c1 a1 w1 ds1 lo1 y hA1 Q1 hQ1 => ih T s (k + 3) _ b off lo1 hi tail c1 a1 w1 ds1 y h6 hA1 Q1 hQ1) hQ
      rw [← hnl] at hy hw hl ⊢
      refine arr_writes h1 h2 h3 st' ((ha.keep s (by omega)).trans hA.sp) hy hw hA.bB hhi hA.nD hk6 hsk hs1 (by omega) (by omega) (by omega) hl ?_
      intro c3 a3 w3 ds3 A3 cap n3 i3 v3 lh q1 q2 q3 q4 q5 q6 q7 q8 q9
      exact gElV_writes v h3 h4 (h5 X.flex).2 (h5 X.flex).1 q3 q4 q5 q6 q1 q2 hk6 (by omega) (by omega) (by omega) (by omega) (by omega) (by omega)
    | false =>
      rw [hc, if_neg (by decide)] at hQ hA
      exact A_skip (r2 := r) (k2 := k + 3) (m2 := m + (c.t + (4 + l.t + 5 + (5 + v.t)))) hA (by omega) (by omega) (by omega) (by omega) (fun c1 Q1 h => gCond_none hA.st (by omega) (by omega) hc h) hlast (fun _ c1 a1 w1 ds1 lo1 y hA1 Q1 hQ1 => ih T s (k + 3) _ b off lo1 hi tail c1 a1 w1 ds1 y h6 hA1 Q1 hQ1) hQ
  | arrS c i o TS eb zs n l T' b' r ihb ih =>
    intro T s k m b off lo hi tail c0 a w ds x hr hA Q hQ
    obtain ⟨hnl, h1, h2, h3, h4, h6⟩ := hr
    have hk := hA.kM
    have hm := hA.mN
    have hm0 := hA.m0
    have hk6 := hA.k6
    have hsk := hA.sk
    have hs1 := hA.s1
    have hM := hX.N0
    simp only [A.k] at hk
    simp only [A.t] at hm
    have hlast : (r.isDone && tail.isNone) = true → tail = none ∧ r.m X.ver X.flex = .unit := by
      intro h
      rw [Bool.and_eq_true] at h
      rw [A.isDone_eq h.1]
      exact ⟨Option.isNone_iff_eq_none.1 h.2, rfl⟩
    simp only [A.m] at hQ hA
    cases hc : c.holds X.ver with
    | true =>
      rw [hc, if_pos rfl] at hQ hA
      refine A_step (r2 := r) (k2 := k + (3 + b'.k)) (m2 := m + (c.t + (4 + l.t + 5 + (4 + b'.t)))) hA (by omega) (by omega) (by omega) (by omega) (fun c1 lo1 hi1 y hy hw hhi hl => gCond_writes hA.st (by omega) hm0 (by omega) hc fun c2 a' ha st' => ?_) hlast (fun _ c1 a1 w1 ds1 lo1 y hA1 Q1 hQ1 => ih T s (k + (3 + b'.k)) _ b off lo1 hi tail c1 a1 w1 ds1 y h6 hA1 Q1 hQ1) hQ
      rw [← hnl] at hy hw hl ⊢
      refine arr_writes h1 h2 h3 st' ((ha.keep s (by omega)).trans hA.sp) hy hw hA.bB hhi hA.nD hk6 hsk hs1 (by omega) (by omega) (by omega) hl ?_
      intro c3 a3 w3 ds3 A3 cap n3 i3 v3 lh q1 q2 q3 q4 q5 q6 q7 q8 q9
      refine gElS_writes h3 q3 q4 q5 q6 hk6 (by omega) (by omega) (by omega) (by omega) (by omega) fun c4 a4 st4 s4 Q4 hQ4 => ?_
      exact ihb T' (k + 2) (k + 3) (m + c.t + 4 + l.t + 4 + 4) A3 (i3 * zs.length) lh.1 lh.2 none c4 a4 w3 ds3 v3 h4 ⟨st4, s4, q1, q2, q9, q7, q8, hA.nD, by omega, by omega, by omega, by omega, by omega, by omega⟩ Q4 hQ4
    | false =>
      rw [hc, if_neg (by decide)] at hQ hA
      exact A_skip (r2 := r) (k2 := k + (3 + b'.k)) (m2 := m + (c.t + (4 + l.t + 5 + (4 + b'.t)))) hA (by omega) (by omega) (by omega) (by omega) (fun c1 Q1 h => gCond_none hA.st (by omega) (by omega) hc h) hlast (fun _ c1 a1 w1 ds1 lo1 y hA1 Q1 hQ1 => ih T s (k + (3 + b'.k)) _ b off lo1 hi tail c1 a1 w1 ds1 y h6 hA1 Q1 hQ1) hQ
  | tags i o u FL FU FE r ih =>
    intro T s k m b off lo hi tail c0 a w ds x hr hA Q hQ
    obtain ⟨hfx, h2, h3, h4, h5, h6⟩ := hr
    have hk := hA.kM
    have hm := hA.mN
    have hm0 := hA.m0
    have hk6 := hA.k6
    have hsk := hA.sk
    have hs1 := hA.s1
    have hM := hX.N0
    simp only [A.k] at hk
    simp only [A.t] at hm
    have hlast : (r.isDone && tail.isNone) = true → tail = none ∧ r.m X.ver X.flex = .unit := by
      intro h
      rw [Bool.and_eq_true] at h
      rw [A.isDone_eq h.1]
      exact ⟨Option.isNone_iff_eq_none.1 h.2, rfl⟩
    simp only [A.m] at hQ hA
    by_cases hc : X.flex = true
    · rw [if_pos hc] at hQ hA
      refine A_step (r2 := r) (k2 := k) (m2 := m + 14) hA (by omega) (by omega) (by omega) (by omega) (fun c1 lo1 hi1 y hy hw hhi hl Q2 hQ2 => ?_) hlast (fun _ c1 a1 w1 ds1 lo1 y hA1 Q1 hQ1 => ih T s k _ b off lo1 hi tail c1 a1 w1 ds1 y h6 hA1 Q1 hQ1) hQ
      cases y with
      | tags t => exact gATags_wp hX.int hX.u32 hfx hc h3 h4 h5 hA.st hA.sp h2 hy hw hA.bB hhi hA.nD hk6 hs1 hsk (by omega) hm0 (by omega) hl hQ2
      | _ => exact hw.elim
    · rw [if_neg hc] at hQ hA
      refine A_skip (r2 := r) (k2 := k) (m2 := m + 14) hA (by omega) (by omega) (by omega) (by omega) (fun c1 Q1 h => ?_) hlast (fun _ c1 a1 w1 ds1 lo1 y hA1 Q1 hQ1 => ih T s k _ b off lo1 hi tail c1 a1 w1 ds1 y h6 hA1 Q1 hQ1) hQ
      have z0 : m < a.tmps.size := by rw [hA.st.size]; omega
      exact wp_seq (gMove_wp' z0 (wp_cond_false (by rw [evT, gt_put z0, if_pos rfl, hA.st.fl hfx]; simpa using hc) (wp_skip (h _ ((Ag.refl (Tm m) a).put (d := m) (by unfold Tm; omega) z0 _)))))
end
end Go.Proofs.YtfimokbgggimmaaDoor.Kf
