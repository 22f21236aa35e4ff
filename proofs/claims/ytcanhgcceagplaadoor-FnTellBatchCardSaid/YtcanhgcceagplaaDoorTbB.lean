/- Batches of records: the package's reading of numbers, one after the other. -/
import Derived.Test.YtcanhgcceagplaaDoorTbA
namespace Go.Proofs.YtcanhgcceagplaaDoor.Kf
set_option linter.unusedVariables false
set_option linter.unusedSimpArgs false
open Go Go.RowKit

section
variable {P : Program} {Q : Exit → Act → World → Prop} {a : Act} {w : World}

/-- Where the reading stands: the reader in the slot 7, the batch in the slot 8. -/
structure FR (D rb b n N : Nat) (a : Act) (w : World) (nn : Bool) (bs : List UInt8) (bad : Bool) : Prop where
  size : a.tmps.size = N
  defers : a.defers = []
  r7 : gt a 7 = .pointer (some ⟨rb, 0, none⟩)
  s8 : gt a 8 = .pointer (some ⟨b, 0, none⟩)
  rd : Rd D rb w nn bs bad
  blk : Blk w b n
  lim : bs.length ≤ lim
  nbr : b ≠ rb
  nbD : b ≠ D
/-- s: what has been cut off; rest: what would be left. -/
def Jx (s rest bs : List UInt8) (bad : Bool) : Prop := (bad = false ∧ bs ++ s = rest) ∨ (bad = true ∧ s ≠ [])

def gC7 (rt F k m : Nat) (c0 : Code) : Code := reg [⟨some m, .call ⟨.value (.func F), #[.tmp 7], #[rt]⟩, none⟩, ⟨some k, .assign (.tmp m), none⟩] c0
theorem rdn_wp {p : Prim} {rt F T i u k m D rb b n N : Nat} {z : Int} {s rest : List UInt8} {c1 c2 REST : Code} (hp : p ≠ .uuid) (hF : NumC P F p) (hf : FieldAt P T i i u 1) {nn : Bool} {bs : List UInt8} {bad : Bool} (st : FR D rb b n N a w nn bs bad) (hJ : Jx s (beEnc p.n z ++ rest) bs bad) (h0 : p.lo ≤ z) (h1 : z < p.hi)
    (hk : 8 < k) (hkm : k < m) (hN : m + 5 ≤ N) (hi : i < n)
    (h : ∀ a' w' nn' bs' bad' z', FR D rb b n N a' w' nn' bs' bad' → Jx s rest bs' bad' → Only (fun j => j = rb ∨ j = b) w w' → Upd b i (i + 1) w w' → w'.cell? ⟨b, i, none⟩ = some (primV p z') → (z' = z ∨ z' = 0) → (bad' = false → z' = z ∧ bad = false) → REST.wp P Q a' w') :
    (Code.seq (.seq (gC7 rt F k m c1) (sinkF T i u 8 k (m + 1) c2)) REST).wp P Q a w := by
  have hsz := st.size
  have e7 : (#[Operand.tmp 7] : Array Operand).map a.eval = #[.pointer (some ⟨rb, 0, none⟩)] := by
    have := st.r7
    simp only [gt] at this
    simp [Act.eval, this]
  refine wp_seq (wp_seq (wp_reg (wpC_call (R := fun v w' => ∃ z' : Int, v = primV p z' ∧ Only (· = rb) w w' ∧ ((bad = false ∧ p.n ≤ bs.length ∧ z' = p.conv (beDec (bs.take p.n)) ∧ Rd D rb w' true (bs.drop p.n) false) ∨ (z' = 0 ∧ (bad = true ∨ bs.length < p.n) ∧ Rd D rb w' false [] true))) hF.1 (by
    rw [e7]
    refine (hF.2 D rb w nn bs bad st.rd st.lim).mono ?_
    rintro _ w' ⟨z', rfl, _, _, ho, hc⟩
    exact ⟨_, rfl, z', rfl, ho, hc⟩) ?_)))
  rintro v w1 ⟨z', rfl, ho, hc⟩
  have hv := primV_cells (p := p) z'
  have hv1 : (primV p z').cells.size = 1 := by rw [hv.1]; rfl
  have hv2 : ∀ c ∈ (primV p z').cells.toList, c.oneCell' = true := by rw [hv.1]; intro c hc; simp at hc; subst hc; exact hv.2
  have z0 : m < a.tmps.size := by omega
  have g1 := (Ag.refl (fun j => j = k ∨ m ≤ j) a).put (d := m) (by omega) z0 (primV p z')
  have e1 : gt (a.put (some m) (primV p z')) m = primV p z' := by rw [gt_put z0, if_pos rfl]
  generalize a.put (some m) (primV p z') = a1 at g1 e1
  refine wpC_val (runs_assign _) (wpC_nil ?_)
  rw [evT, e1]
  have z1 : k < a1.tmps.size := by rw [g1.size]; omega
  have g2 := g1.put (d := k) (by omega) z1 (primV p z')
  have e2 : gt (a1.put (some k) (primV p z')) k = primV p z' := by rw [gt_put z1, if_pos rfl]
  generalize a1.put (some k) (primV p z') = a2 at g2 e2
  have hbl := st.blk.lt
  have hb1 : Blk w1 b n := st.blk.keep (ho.block b hbl st.nbr)
  show (sinkF T i u 8 k (m + 1) c2).wp P _ a2 w1
  refine (sinkF_wp (n := 1) (N := n) (b := b) (off := 0) (v := primV p z') ((g2.keep 8 (by omega)).trans st.s8) e2 hf hv1 hv2 hb1 (by omega) (by omega) (by omega) (by rw [g2.size]; omega) fun a3 w3 g3 wr => ?_)
  have hrl := st.rd.lt
  have hDr : D < rb := by obtain ⟨_, _, _, _, h, _⟩ := st.rd; exact h
  have hls := ho.size
  have kD : w3.heap[D]? = w1.heap[D]? := wr.only.block _ (by omega) (fun e => st.nbD e.symm)
  have kr : w3.heap[rb]? = w1.heap[rb]? := wr.only.block _ (by omega) (fun e => st.nbr e.symm)
  have f3 : Ag (fun j => j = k ∨ m ≤ j) a a3 := g2.trans (g3.mono fun j hj => by unfold Tm at hj; omega)
  have hO : Only (fun j => j = rb ∨ j = b) w w3 := (ho.mono fun _ _ h => .inl h).trans (wr.only.mono fun _ _ h => .inr h)
  have hlen : (primV p z').cells.toList = [primV p z'] := by rw [hv.1]
  have hU : Upd b i (i + 1) w w3 := by
    have := wr.upd
    rw [hlen, Nat.zero_add] at this
    exact (Upd.same (ho.block b hbl st.nbr)).trans this
  have hcell : w3.cell? ⟨b, i, none⟩ = some (primV p z') := by
    have := wr.cells 0 (primV p z') (by rw [hlen]; rfl)
    simpa using this
  have mk : ∀ nn' bs' bad', Rd D rb w1 nn' bs' bad' → bs'.length ≤ bs.length → FR D rb b n N a3 w3 nn' bs' bad' := fun nn' bs' bad' hr hl =>
    ⟨f3.size.trans hsz, f3.defers.trans st.defers, (f3.keep 7 (by omega)).trans st.r7, (f3.keep 8 (by omega)).trans st.s8, hr.keep kD kr, wr.upd.blk hb1, Nat.le_trans hl st.lim, st.nbr, st.nbD⟩
  rcases hc with ⟨hbad, hle, hz, hr⟩ | ⟨hz, hbad, hr⟩
  · -- read
    rcases hJ with ⟨_, hJ⟩ | ⟨hb, _⟩
    · have htk : bs.take p.n = beEnc p.n z := by
        have h2 := congrArg (List.take p.n) hJ
        rw [List.take_append_of_le_length hle, List.take_left' (beEnc_length p.n z)] at h2
        exact h2
      have hdr : bs.drop p.n ++ s = rest := by
        have h2 := congrArg (List.drop p.n) hJ
        rw [List.drop_append_of_le_length hle, List.drop_left' (beEnc_length p.n z)] at h2
        exact h2
      have hzz : z' = z := by rw [hz, htk, conv_enc p z hp h0 h1]
      exact h a3 w3 true _ false z' (mk _ _ _ hr (by simp)) (.inl ⟨rfl, hdr⟩) hO hU hcell (.inl hzz) fun _ => ⟨hzz, hbad⟩
    · rw [hbad] at hb; cases hb
  · have hs : s ≠ [] := by
      rcases hJ with ⟨hb, hJ⟩ | ⟨_, hs⟩
      · rintro rfl
        rw [List.append_nil] at hJ
        rcases hbad with hbad | hbad
        · rw [hb] at hbad; cases hbad
        · rw [hJ, List.length_append, beEnc_length] at hbad; omega
      · exact hs
    exact h a3 w3 false [] true z' (mk _ _ _ hr (by simp)) (.inr ⟨rfl, hs⟩) hO hU hcell (.inr hz) fun e => by cases e

/-- Numbers, one after the other: kind, function, type. -/
structure RI where
  p : Prim
  F : Nat
  u : Nat
def gRs (rt T : Nat) : List RI → (i k m : Nat) → (Code → Code) → Code → Code
  | [], _, _, _, tail, c => tail c
  | r :: l, i, k, m, tail, c => .seq (.seq (gC7 rt r.F k m (pc c [0, 0])) (sinkF T i r.u 8 k (m + 1) (pc c [0, 1]))) (gRs rt T l (i + 1) (k + 1) (m + 5) tail (pc c [1]))
def rsOk (P : Program) (T : Nat) : List RI → Nat → Prop
  | [], _ => True
  | r :: l, i => (r.p ≠ .uuid ∧ NumC P r.F r.p ∧ FieldAt P T i i r.u 1) ∧ rsOk P T l (i + 1)
def rsB : List RI → List Int → List UInt8 → List UInt8
  | r :: l, z :: zs, rest => beEnc r.p.n z ++ rsB l zs rest
  | _, _, rest => rest
def rsV : List RI → List Int → Prop
  | r :: l, z :: zs => (r.p.lo ≤ z ∧ z < r.p.hi) ∧ rsV l zs
  | [], [] => True
  | _, _ => False
/-- What is in the cells. -/
def rsC (w : World) (b : Nat) (bad : Bool) : List RI → List Int → Nat → Prop
  | r :: l, z :: zs, i => (∃ z', w.cell? ⟨b, i, none⟩ = some (primV r.p z') ∧ (z' = z ∨ z' = 0) ∧ (bad = false → z' = z)) ∧ rsC w b bad l zs (i + 1)
  | _, _, _ => True
theorem gRs_wp {rt T D rb b n N : Nat} {s : List UInt8} {tail : Code → Code} {rest : List UInt8} : ∀ (l : List RI) (zs : List Int) (i k m : Nat) (c0 : Code) (a : Act) (w : World) (nn : Bool) (bs : List UInt8) (bad : Bool), rsOk P T l i → rsV l zs → FR D rb b n N a w nn bs bad → Jx s (rsB l zs rest) bs bad →
    8 < k → k + l.length ≤ m → m + 5 * l.length ≤ N → i + l.length ≤ n →
    (∀ c a' w' nn' bs' bad', FR D rb b n N a' w' nn' bs' bad' → Jx s rest bs' bad' → Only (fun j => j = rb ∨ j = b) w w' → Upd b i (i + l.length) w w' → rsC w' b bad' l zs i → (bad' = false → bad = false) → (tail c).wp P Q a' w') →
    (gRs rt T l i k m tail c0).wp P Q a w := by
  intro l
  induction l with
  | nil =>
    intro zs i k m c0 a w nn bs bad _ hv st hJ hk hkm hN hi h
    have hJ' : Jx s rest bs bad := by cases zs <;> exact hJ
    exact h c0 a w nn bs bad st hJ' (Only.refl _ _) (Upd.same rfl) (by cases zs <;> trivial) id
  | cons r l ih =>
    intro zs i k m c0 a w nn bs bad hok hv st hJ hk hkm hN hi h
    cases zs with
    | nil => exact hv.elim
    | cons z zs =>
      obtain ⟨⟨o1, o2, o3⟩, hok⟩ := hok
      obtain ⟨hz, hv⟩ := hv
      simp only [List.length_cons] at hkm hN hi h
      refine rdn_wp (REST := gRs rt T l (i + 1) (k + 1) (m + 5) tail (pc c0 [1])) o1 o2 o3 st hJ hz.1 hz.2 hk (by omega) (by omega) (by omega) fun a1 w1 nn1 bs1 bad1 z1 st1 hJ1 ho1 hu1 hc1 hzz1 hb1 => ?_
      refine ih zs (i + 1) (k + 1) (m + 5) _ a1 w1 nn1 bs1 bad1 hok hv st1 hJ1 (by omega) (by omega) (by omega) (by omega) fun c a2 w2 nn2 bs2 bad2 st2 hJ2 ho2 hu2 hc2 hb2 => ?_
      refine h c a2 w2 nn2 bs2 bad2 st2 hJ2 (ho1.trans ho2) ((hu1.mono (Nat.le_refl _) (by omega)).trans (hu2.mono (by omega) (by omega))) ⟨⟨z1, ?_, hzz1, fun e => (hb1 (hb2 e)).1⟩, hc2⟩ fun e => (hb1 (hb2 e)).2
      rw [hu2.cell (hu1.blk st.blk) (.inl (by omega))]
      exact hc1
end
end Go.Proofs.YtcanhgcceagplaaDoor.Kf
