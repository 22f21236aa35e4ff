/- Trees that came in as data. -/
import Derived.Test.YtpefipjgcpchaaaGreatDoorRRowA
import Derived.Test.YtpefipjgcpchaaaGreatDoorRPA
namespace Go.Proofs.YtpefipjgcpchaaaGreatDoorR.Kf
set_option linter.unusedVariables false
set_option linter.unusedSimpArgs false
open Go Go.RowKit Go.ChangeShapes Go.WideShapes Go.ChangeAt

/-- A struct's field. -/
def FldAt (P : Program) (T i o u : Nat) : Prop := ∃ fs : Array Field, P.underlying T = some (.struct fs) ∧ ∃ f, fs[i]? = some f ∧ f.offset = o ∧ f.type = u
/-- The types of trees and tags. -/
structure TreeT (P : Program) (TT TL TU TG sl u8 i64 bo u32 : Nat) : Prop where
  f0 : FldAt P TT 0 0 i64
  f1 : FldAt P TT 1 1 sl
  f2 : FldAt P TT 2 2 bo
  f3 : FldAt P TT 3 3 TL
  f4 : FldAt P TT 4 4 TU
  g0 : FldAt P TG 0 0 u32
  g1 : FldAt P TG 1 1 sl
  tl : P.underlying TL = some (.slice TT)
  tu : P.underlying TU = some (.slice TG)
  ts : P.underlying sl = some (.slice u8)
  t8 : P.underlying u8 = some (.int .u8)
  t64 : P.underlying i64 = some (.int .i64)
  tb : P.underlying bo = some .bool
  t32 : P.underlying u32 = some (.int .u32)
  cT : P.cellsOf TT = 5
  cG : P.cellsOf TG = 2
  c8 : P.cellsOf u8 = 1
  cs : P.cellsOf sl = 1
  c64 : P.cellsOf i64 = 1
  cb : P.cellsOf bo = 1
  c32 : P.cellsOf u32 = 1
  cL : P.cellsOf TL = 1
  cU : P.cellsOf TU = 1

section
variable {H : Type} {enc : TypeId × Value → H} {P : Program} {W : World}

/-- A field's cell and its own reading. -/
theorem field_trod {T i o u : Nat} (hf : FldAt P T i o u) (hc : P.cellsOf u = 1) {fuel : Nat} {cs : List Value} {x : DataW H × List MemPlace} (h : DataW.trod enc P W 0 (fun _ => true) true fuel T cs = some x) :
    ∃ n y l, fuel = n + 1 ∧ DataW.trod enc P W 0 (fun _ => true) true n u ((cs.drop o).take 1) = some y ∧ x.1 = .agg l ∧ l[i]? = some y.1 := by
  obtain ⟨fs, hT, f, hfi, rfl, rfl⟩ := hf
  obtain ⟨xs, n, rfl, rfl, hl, hlen, hx⟩ := DataW.trod_struct hT h
  have h1 := hx i f hfi
  rw [hc] at h1
  have hi : i < xs.length := by rw [hlen]; exact (Array.getElem?_eq_some_iff.1 hfi).1
  rw [List.getElem?_eq_getElem hi] at h1
  exact ⟨n, _, xs.map (·.1), rfl, h1, rfl, by rw [List.getElem?_map, List.getElem?_eq_getElem hi]; rfl⟩
theorem struct_len {T i o u : Nat} (hf : FldAt P T i o u) {fuel : Nat} {cs : List Value} {x : DataW H × List MemPlace} (h : DataW.trod enc P W 0 (fun _ => true) true fuel T cs = some x) : cs.length = P.cellsOf T := by
  obtain ⟨fs, hT, _⟩ := hf
  obtain ⟨xs, n, rfl, rfl, hl, hlen, hx⟩ := DataW.trod_struct hT h
  exact hl

/-- How much data is: numbers that a given count of values and letters meets. -/
structure Bulk (bk : DataW H → Nat) (bks : List (DataW H) → Nat) : Prop where
  int : ∀ k n, 1 ≤ bk (.lit (.int k n))
  bool : ∀ b, 1 ≤ bk (.lit (.bool b))
  nil : 1 ≤ bk .nil
  agg : ∀ l, bk (.agg l) = bks l + 1
  slice : ∀ l r, bks l + 1 ≤ bk (.slice l r)
  none : bks [] = 0
  cons : ∀ d l, bks (d :: l) = bk d + bks l
variable {Z : Prop} {bk : DataW H → Nat} {bks : List (DataW H) → Nat}
theorem Bulk.lits (h : Bulk bk bks) (k : IntKind) : ∀ zs : List Int, zs.length ≤ bks (lits k zs)
  | [] => by simp
  | z :: zs => by
    have h1 := h.int k z
    have h2 := Bulk.lits h k zs
    have e : (Go.ChangeShapes.lits k (z :: zs) : List (DataW H)) = .lit (.int k z) :: Go.ChangeShapes.lits k zs := rfl
    rw [e, h.cons, List.length_cons]; omega
theorem Bulk.sum (h : Bulk bk bks) : ∀ (elems : List (DataW H × List MemPlace)) (g : Nat → Nat), (∀ j d, elems[j]? = some d → g j ≤ bk d.1) → ((List.range elems.length).map g).sum ≤ bks (elems.map (·.1))
  | [], g, _ => by simp
  | d :: l, g, hg => by
    have h1 := hg 0 d rfl
    have h2 := Bulk.sum h l (fun j => g (j + 1)) (fun j y hy => hg (j + 1) y (by simpa using hy))
    rw [List.length_cons, List.range_succ_eq_map, List.map_cons, List.sum_cons, List.map_map, List.map_cons, h.cons]
    have e : (g ∘ Nat.succ) = fun j => g (j + 1) := rfl
    rw [e]; omega
theorem oc_trodZ {t e : TypeId} (hB : Z → Bulk bk bks) (ht : P.underlying t = some (.slice e)) (he : P.underlying e = some (.int .u8)) (hc : P.cellsOf e = 1) {fuel : Nat} {cs : List Value} {x : DataW H × List MemPlace} (h : DataW.trod enc P W 0 (fun _ => true) true fuel t cs = some x) :
    ∃ bs v, cs = [v] ∧ Oc W W.heap.size v bs ∧ (Z → bs.length + 1 ≤ bk x.1) := by
  obtain ⟨bs, v, hv, ho⟩ := oc_trod ht he hc h
  refine ⟨bs, v, hv, ho, fun z => ?_⟩
  have hB := hB z
  rcases open_ints ht he hc h with ⟨e1, e2⟩ | ⟨a, len, cap, zs, e1, _, hle, hm, hz, hx, hcell, hw⟩
  · rw [hv] at e1
    obtain rfl : v = .slice none 0 0 := by simpa using e1
    obtain ⟨A, c, e3, _⟩ := ho.sl
    injection e3 with _ e4 _
    rw [e2, ← e4]; exact hB.nil
  · rw [hv] at e1
    obtain rfl : v = .slice (some a) len cap := by simpa using e1
    obtain ⟨A, c, e3, _⟩ := ho.sl
    injection e3 with _ e4 _
    have h1 := hB.slice (lits .u8 (zs.take len)) (lits .u8 (zs.drop len))
    have h2 := hB.lits .u8 (zs.take len)
    have h3 : (zs.take len).length = len := by
      have : zs.length = cap := by simpa using hz
      rw [List.length_take]; omega
    rw [hx]; show bs.length + 1 ≤ bk (.slice _ _); omega
theorem Bulk.two (h : Bulk bk bks) {l : List (DataW H)} {d0 d1 : DataW H} (h0 : l[0]? = some d0) (h1 : l[1]? = some d1) : bk d0 + bk d1 + 1 ≤ bk (.agg l) := by
  match l, h0, h1 with
  | a :: b :: l, h0, h1 =>
    simp at h0 h1; subst h0; subst h1
    rw [h.agg, h.cons, h.cons]; omega
theorem Bulk.five (h : Bulk bk bks) {l : List (DataW H)} {d0 d1 d2 d3 d4 : DataW H} (h0 : l[0]? = some d0) (h1 : l[1]? = some d1) (h2 : l[2]? = some d2) (h3 : l[3]? = some d3) (h4 : l[4]? = some d4) : bk d0 + bk d1 + bk d2 + bk d3 + bk d4 + 1 ≤ bk (.agg l) := by
  match l, h0, h1, h2, h3, h4 with
  | a :: b :: c :: d :: e :: l, h0, h1, h2, h3, h4 =>
    simp at h0 h1 h2 h3 h4; subst h0; subst h1; subst h2; subst h3; subst h4
    rw [h.agg, h.cons, h.cons, h.cons, h.cons, h.cons]; omega
theorem trsSize_sum (l : List Tr) : trsSize l = (l.map Tr.size).sum := by
  induction l with
  | nil => rfl
  | cons t l ih => simp only [trsSize, List.map_cons, List.sum_cons, ih]
theorem tgsSize_sum (l : List (Nat × List UInt8)) : tgsSize l = (l.map fun x => 1 + x.2.length).sum := by
  induction l with
  | nil => rfl
  | cons t l ih => simp only [tgsSize, List.map_cons, List.sum_cons, ih]

theorem tag_trod {TT TL TU TG sl u8 i64 bo u32 : Nat} (hB : Z → Bulk bk bks) (K : TreeT P TT TL TU TG sl u8 i64 bo u32) {fuel : Nat} {cs : List Value} {x : DataW H × List MemPlace} (h : DataW.trod enc P W 0 (fun _ => true) true fuel TG cs = some x) :
    ∃ (y : Nat × List UInt8) (vv : Value), cs = [.int .u32 y.1, vv] ∧ y.1 < 4294967296 ∧ Oc W W.heap.size vv y.2 ∧ (Z → 1 + y.2.length ≤ bk x.1) := by
  have hl := struct_len K.g0 h
  rw [K.cG] at hl
  obtain ⟨a, b, rfl⟩ : ∃ a b, cs = [a, b] := by
    match cs, hl with
    | [a, b], _ => exact ⟨a, b, rfl⟩
  obtain ⟨n, y0, l0, _, h0, e0, k0⟩ := field_trod K.g0 K.c32 h
  obtain ⟨m, y1, l1, _, h1, e1, k1⟩ := field_trod K.g1 K.cs h
  have el : l0 = l1 := by rw [e0] at e1; injection e1
  subst el
  simp at h0 h1
  obtain ⟨q, hq, hy0, hw⟩ := DataW.trod_int K.t32 h0
  obtain ⟨bs, v, hv, ho, hz⟩ := oc_trodZ hB K.ts K.t8 K.c8 h1
  have e1 : a = .int .u32 q := by simpa using hq
  have e2 : b = v := by simpa using hv
  subst e1; subst e2
  have hr : 0 ≤ q ∧ q ≤ 4294967295 := by simpa [Lit.wf, IntKind.min, IntKind.max, IntKind.signed, IntKind.bits] using hw
  refine ⟨(q.toNat, bs), b, ?_, ?_, ho, fun z => ?_⟩
  · simp only []
    congr 2
    omega
  · simp only []; omega
  · have h2 := (hB z).two k0 k1
    have h3 := hz z
    rw [e0]; simp only []; omega

/-- A slice's things, each told by its own reading. -/
theorem things_trod {t e sz : Nat} (ht : P.underlying t = some (.slice e)) (hc : P.cellsOf e = sz) {α : Type} (d : α) (R : List Value → α → Prop) (hB : Z → Bulk bk bks) (μ : α → Nat) {fuel : Nat} {cs : List Value} {x : DataW H × List MemPlace}
    (hR : ∀ n cs y, n < fuel → DataW.trod enc P W 0 (fun _ => true) true n e cs = some y → ∃ a, R cs a ∧ (Z → μ a ≤ bk y.1)) (h : DataW.trod enc P W 0 (fun _ => true) true fuel t cs = some x) (hsz : 0 < sz) :
    ∃ (l : List α) (v : Value) (f : Nat → List Value), cs = [v] ∧ Sls W W.heap.size sz v l.length f ∧ (∀ j a, l[j]? = some a → R (f j) a) ∧ (Z → (l.map μ).sum + 1 ≤ bk x.1) := by
  rcases DataW.trod_slice ht h with ⟨rfl, ex⟩ | ⟨a, len, cap, elems, rest, n, hfuel, rfl, ex, _, hle, _, hlen, hel, _, _⟩
  · exact ⟨[], _, fun _ => [], rfl, .inl ⟨rfl, rfl⟩, by simp, fun z => by have := (hB z).nil; rw [ex]; simpa using this⟩
  · subst hlen
    have key : ∀ j, ∃ (c : List Value) (y : α), j < elems.length → W.cells? 0 (a.add (j * sz)) sz = some c ∧ R c y ∧ (Z → ∀ d, elems[j]? = some d → μ y ≤ bk d.1) := by
      intro j
      by_cases hj : j < elems.length
      · have h1 := hel j hj
        rw [hc, List.getElem?_eq_getElem (by omega)] at h1
        obtain ⟨c, h2, h3⟩ := Option.bind_eq_some_iff.1 h1
        obtain ⟨y, hy, hz⟩ := hR n c _ (by omega) h3
        exact ⟨c, y, fun _ => ⟨h2, hy, fun z d hd => by
          rw [List.getElem?_eq_getElem (by omega)] at hd
          injection hd with hd
          rw [← hd]; exact hz z⟩⟩
      · exact ⟨[], d, fun h => absurd h hj⟩
    refine ⟨(List.range elems.length).map fun j => (key j).choose_spec.choose, _, fun j => (key j).choose, rfl, .inr ⟨a, cap, by simp, by simpa using hle, fun j hj => ?_⟩, fun j y hy => ?_, fun z => ?_⟩
    · have hj' : j < elems.length := by simpa using hj
      obtain ⟨h1, _, _⟩ := (key j).choose_spec.choose_spec hj'
      obtain ⟨_, h2, h3⟩ := World.cells?_some h1
      refine ⟨?_, h2, fun k v hk => ?_⟩
      · have h0 := h3 0 hsz
        rw [List.getElem?_eq_getElem (by omega)] at h0
        have := World.block_lt_of_cell? _ _ h0
        rwa [add_block, add_block] at this
      · have hk' : k < sz := Nat.lt_of_lt_of_eq (List.getElem?_eq_some_iff.1 hk).1 h2
        rw [h3 k hk']; exact hk
    · have hj' : j < elems.length := by
        have := (List.getElem?_eq_some_iff.1 hy).1
        simpa using this
      rw [List.getElem?_map, List.getElem?_range hj'] at hy
      have hy := Option.some.inj hy
      subst hy
      show R (key j).choose (key j).choose_spec.choose
      exact ((key j).choose_spec.choose_spec hj').2.1
    · have hB := hB z
      have h1 := hB.sum elems (fun j => μ (key j).choose_spec.choose) (fun j d hd => by
        have hj' : j < elems.length := (List.getElem?_eq_some_iff.1 hd).1
        exact ((key j).choose_spec.choose_spec hj').2.2 z d hd)
      have h2 := hB.slice (elems.map (·.1)) (rest.map (·.1))
      rw [List.map_map, ex]
      have e : (μ ∘ fun j => (key j).choose_spec.choose) = fun j => μ (key j).choose_spec.choose := rfl
      rw [e]
      show _ ≤ bk (.slice _ _); omega

theorem tr_trod {TT TL TU TG sl u8 i64 bo u32 : Nat} (hB : Z → Bulk bk bks) (K : TreeT P TT TL TU TG sl u8 i64 bo u32) : ∀ (fuel : Nat) (cs : List Value) (x : DataW H × List MemPlace), DataW.trod enc P W 0 (fun _ => true) true fuel TT cs = some x → ∃ t, TrC W W.heap.size t cs ∧ (Z → t.size ≤ bk x.1) := by
  intro fuel
  induction fuel using Nat.strongRecOn with
  | ind fuel ih =>
    intro cs x h
    have hl := struct_len K.f0 h
    rw [K.cT] at hl
    obtain ⟨a0, a1, a2, a3, a4, rfl⟩ : ∃ a0 a1 a2 a3 a4, cs = [a0, a1, a2, a3, a4] := by
      match cs, hl with
      | [a0, a1, a2, a3, a4], _ => exact ⟨a0, a1, a2, a3, a4, rfl⟩
    obtain ⟨n0, y0, l0, _, h0, u0, k0⟩ := field_trod K.f0 K.c64 h
    obtain ⟨n1, y1, l1, _, h1, u1, k1⟩ := field_trod K.f1 K.cs h
    obtain ⟨n2, y2, l2, _, h2, u2, k2⟩ := field_trod K.f2 K.cb h
    obtain ⟨n3, y3, l3, e3, h3, u3, k3⟩ := field_trod K.f3 K.cL h
    obtain ⟨n4, y4, l4, e4, h4, u4, k4⟩ := field_trod K.f4 K.cU h
    have w1 : l1 = l0 := by rw [u0] at u1; injection u1 with u1; exact u1.symm
    have w2 : l2 = l0 := by rw [u0] at u2; injection u2 with u2; exact u2.symm
    have w3 : l3 = l0 := by rw [u0] at u3; injection u3 with u3; exact u3.symm
    have w4 : l4 = l0 := by rw [u0] at u4; injection u4 with u4; exact u4.symm
    subst w1; subst w2; subst w3; subst w4
    simp at h0 h1 h2 h3 h4
    obtain ⟨q, hq, z0, hw⟩ := DataW.trod_int K.t64 h0
    obtain ⟨bs, v, hv, ho, z1⟩ := oc_trodZ hB K.ts K.t8 K.c8 h1
    obtain ⟨b, hb, z2⟩ := DataW.trod_bool K.tb h2
    obtain ⟨l, vl, fl, hvl, hsl, hel, z3⟩ := things_trod K.tl K.cT tr0 (fun c t => TrC W W.heap.size t c) hB Tr.size (fun n c y hn hy => ih n (by omega) c y hy) h3 (by decide)
    obtain ⟨u, vu, fu, hvu, hsu, heu, z4⟩ := things_trod K.tu K.cG ((0, []) : Nat × List UInt8) (fun c y => y.1 < 4294967296 ∧ ∃ vv, c = [.int .u32 y.1, vv] ∧ Oc W W.heap.size vv y.2) hB (fun y => 1 + y.2.length) (fun n c y hn hy => let ⟨z, vv, e, h1, h2, h3⟩ := tag_trod hB K hy; ⟨z, ⟨h1, vv, e, h2⟩, h3⟩) h4 (by decide)
    have e0 : a0 = .int .i64 q := by simpa using hq
    have e1 : a1 = v := by simpa using hv
    have e2 : a2 = .bool b := by simpa using hb
    have e3 : a3 = vl := by simpa using hvl
    have e4 : a4 = vu := by simpa using hvu
    subst e0; subst e1; subst e2; subst e3; subst e4
    have hr : -9223372036854775808 ≤ q ∧ q ≤ 9223372036854775807 := by simpa [Lit.wf, IntKind.min, IntKind.max, IntKind.signed, IntKind.bits] using hw
    refine ⟨.mk q bs b l u, .mk fl fu hr.1 (by omega) ho hsl hel hsu heu, fun z => ?_⟩
    have hB := hB z
    have z1 := z1 z
    have z3 := z3 z
    have z4 := z4 z
    have z5 := hB.five k0 k1 k2 k3 k4
    rw [← trsSize_sum] at z3
    rw [← tgsSize_sum] at z4
    rw [u0]; simp only [Tr.size]; omega

theorem tr_open {TT TL TU TG sl u8 i64 bo u32 : Nat} (K : TreeT P TT TL TU TG sl u8 i64 bo u32) {b0 : Nat} {r : Reach} {v : Value} {d : DataW H} {ps : List MemPlace} (hval : Value.okWide P W r b0 TT v) (h : DataW.Trod enc P W 0 (fun _ => true) true TT v d ps) :
    ∃ t ts, v = .agg ts.toArray ∧ TrC W W.heap.size t ts := by
  obtain ⟨fuel, hf⟩ := h
  obtain ⟨t, ht, _⟩ := tr_trod (Z := False) (bk := fun _ => 0) (bks := fun _ => 0) (fun h => h.elim) K fuel _ _ hf
  obtain ⟨fs, hT, _⟩ := K.f0
  obtain ⟨cs, rfl⟩ : ∃ cs, v = .agg cs := by
    unfold Value.okWide at hval
    rw [hT] at hval
    cases v <;> simp at hval
    exact ⟨_, rfl⟩
  exact ⟨t, cs.toList, rfl, by simpa [Value.cells] using ht⟩
/-- .. with its size. -/
theorem tr_openZ {TT TL TU TG sl u8 i64 bo u32 : Nat} (hB : Bulk bk bks) (K : TreeT P TT TL TU TG sl u8 i64 bo u32) {b0 : Nat} {r : Reach} {v : Value} {d : DataW H} {ps : List MemPlace} (hval : Value.okWide P W r b0 TT v) (h : DataW.Trod enc P W 0 (fun _ => true) true TT v d ps) :
    ∃ t ts, v = .agg ts.toArray ∧ TrC W W.heap.size t ts ∧ t.size ≤ bk d := by
  obtain ⟨fuel, hf⟩ := h
  obtain ⟨t, ht, hz⟩ := tr_trod (Z := True) (fun _ => hB) K fuel _ _ hf
  obtain ⟨fs, hT, _⟩ := K.f0
  obtain ⟨cs, rfl⟩ : ∃ cs, v = .agg cs := by
    unfold Value.okWide at hval
    rw [hT] at hval
    cases v <;> simp at hval
    exact ⟨_, rfl⟩
  exact ⟨t, cs.toList, rfl, by simpa [Value.cells] using ht, hz trivial⟩
theorem Bulk.mem (h : Bulk bk bks) {d : DataW H} : ∀ {l : List (DataW H)}, d ∈ l → bk d ≤ bks l
  | [], hd => by cases hd
  | e :: l, hd => by
    rw [h.cons]
    rcases List.mem_cons.1 hd with rfl | hd
    · omega
    · have := Bulk.mem h hd; omega
end
end Go.Proofs.YtpefipjgcpchaaaGreatDoorR.Kf
