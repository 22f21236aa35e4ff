/- Trees that came in as data. -/
import Derived.Test.YtcjlboannomanaaRowA
namespace Go.Proofs.Ytcjlboannomanaa.Kf
set_option linter.unusedVariables false
set_option linter.unusedSimpArgs false
open Go Go.RowKit Go.ChangeShapes Go.WideShapes Go.ChangeAt

/-- A struct's field. -/
def FldAt (P : Program) (T i o u : Nat) : Prop := ∃ fs : Array Field, P.underlying T = some (.struct fs) ∧ ∃ f, fs[i]? = some f ∧ f.offset = o ∧ f.type = u
/-- The types of trees and tags. -/
structure TreeT (P : Program) (TT TL TU TG sl u8 i64 bo u32 : Nat) : Prop where
  f0 : FldAt P TT 0 0 i64
  f1 : FldAt P TT 1 1 sl
  f2 : FldAt P TT 2 2 bo
  f3 : FldAt P TT 3 3 TL
  f4 : FldAt P TT 4 4 TU
  g0 : FldAt P TG 0 0 u32
  g1 : FldAt P TG 1 1 sl
  tl : P.underlying TL = some (.slice TT)
  tu : P.underlying TU = some (.slice TG)
  ts : P.underlying sl = some (.slice u8)
  t8 : P.underlying u8 = some (.int .u8)
  t64 : P.underlying i64 = some (.int .i64)
  tb : P.underlying bo = some .bool
  t32 : P.underlying u32 = some (.int .u32)
  cT : P.cellsOf TT = 5
  cG : P.cellsOf TG = 2
  c8 : P.cellsOf u8 = 1
  cs : P.cellsOf sl = 1
  c64 : P.cellsOf i64 = 1
  cb : P.cellsOf bo = 1
  c32 : P.cellsOf u32 = 1
  cL : P.cellsOf TL = 1
  cU : P.cellsOf TU = 1

section
variable {H : Type} {enc : TypeId × Value → H} {P : Program} {W : World}

/-- A field's cell and its own reading. -/
theorem field_trod {T i o u : Nat} (hf : FldAt P T i o u) (hc : P.cellsOf u = 1) {fuel : Nat} {cs : List Value} {x : DataW H × List MemPlace} (h : DataW.trod enc P W 0 (fun _ => true) true fuel T cs = some x) :
    ∃ n y, fuel = n + 1 ∧ DataW.trod enc P W 0 (fun _ => true) true n u ((cs.drop o).take 1) = some y := by
  obtain ⟨fs, hT, f, hfi, rfl, rfl⟩ := hf
  obtain ⟨xs, n, rfl, rfl, hl, hlen, hx⟩ := DataW.trod_struct hT h
  have h1 := hx i f hfi
  rw [hc] at h1
  have hi : i < xs.length := by rw [hlen]; exact (Array.getElem?_eq_some_iff.1 hfi).1
  rw [List.getElem?_eq_getElem hi] at h1
  exact ⟨n, _, rfl, h1⟩
theorem struct_len {T i o u : Nat} (hf : FldAt P T i o u) {fuel : Nat} {cs : List Value} {x : DataW H × List MemPlace} (h : DataW.trod enc P W 0 (fun _ => true) true fuel T cs = some x) : cs.length = P.cellsOf T := by
  obtain ⟨fs, hT, _⟩ := hf
  obtain ⟨xs, n, rfl, rfl, hl, hlen, hx⟩ := DataW.trod_struct hT h
  exact hl

theorem tag_trod {TT TL TU TG sl u8 i64 bo u32 : Nat} (K : TreeT P TT TL TU TG sl u8 i64 bo u32) {fuel : Nat} {cs : List Value} {x : DataW H × List MemPlace} (h : DataW.trod enc P W 0 (fun _ => true) true fuel TG cs = some x) :
    ∃ (y : Nat × List UInt8) (vv : Value), cs = [.int .u32 y.1, vv] ∧ y.1 < 4294967296 ∧ Oc W W.heap.size vv y.2 := by
  have hl := struct_len K.g0 h
  rw [K.cG] at hl
  obtain ⟨a, b, rfl⟩ : ∃ a b, cs = [a, b] := by
    match cs, hl with
    | [a, b], _ => exact ⟨a, b, rfl⟩
  obtain ⟨n, y0, _, h0⟩ := field_trod K.g0 K.c32 h
  obtain ⟨m, y1, _, h1⟩ := field_trod K.g1 K.cs h
  simp at h0 h1
  obtain ⟨q, hq, _, hw⟩ := DataW.trod_int K.t32 h0
  obtain ⟨bs, v, hv, ho⟩ := oc_trod K.ts K.t8 K.c8 h1
  have e1 : a = .int .u32 q := by simpa using hq
  have e2 : b = v := by simpa using hv
  subst e1; subst e2
  have hr : 0 ≤ q ∧ q ≤ 4294967295 := by simpa [Lit.wf, IntKind.min, IntKind.max, IntKind.signed, IntKind.bits] using hw
  refine ⟨(q.toNat, bs), b, ?_, ?_, ho⟩
  · simp only []
    congr 2
    omega
  · simp only []; omega

/-- A slice's things, each told by its own reading. -/
theorem things_trod {t e sz : Nat} (ht : P.underlying t = some (.slice e)) (hc : P.cellsOf e = sz) {α : Type} (d : α) (R : List Value → α → Prop) {fuel : Nat} {cs : List Value} {x : DataW H × List MemPlace}
    (hR : ∀ n cs y, n < fuel → DataW.trod enc P W 0 (fun _ => true) true n e cs = some y → ∃ a, R cs a) (h : DataW.trod enc P W 0 (fun _ => true) true fuel t cs = some x) (hsz : 0 < sz) :
    ∃ (l : List α) (v : Value) (f : Nat → List Value), cs = [v] ∧ Sls W W.heap.size sz v l.length f ∧ ∀ j a, l[j]? = some a → R (f j) a := by
  rcases DataW.trod_slice ht h with ⟨rfl, _⟩ | ⟨a, len, cap, elems, rest, n, hfuel, rfl, _, _, hle, _, hlen, hel, _, _⟩
  · exact ⟨[], _, fun _ => [], rfl, .inl ⟨rfl, rfl⟩, by simp⟩
  · have key : ∀ j, ∃ (c : List Value) (y : α), j < len → W.cells? 0 (a.add (j * sz)) sz = some c ∧ R c y := by
      intro j
      by_cases hj : j < len
      · have h1 := hel j hj
        rw [hc, List.getElem?_eq_getElem (by omega)] at h1
        obtain ⟨c, h2, h3⟩ := Option.bind_eq_some_iff.1 h1
        obtain ⟨y, hy⟩ := hR n c _ (by omega) h3
        exact ⟨c, y, fun _ => ⟨h2, hy⟩⟩
      · exact ⟨[], d, fun h => absurd h hj⟩
    refine ⟨(List.range len).map fun j => (key j).choose_spec.choose, _, fun j => (key j).choose, rfl, .inr ⟨a, cap, by simp, by simpa using hle, fun j hj => ?_⟩, fun j y hy => ?_⟩
    · have hj' : j < len := by simpa using hj
      obtain ⟨h1, _⟩ := (key j).choose_spec.choose_spec hj'
      obtain ⟨_, h2, h3⟩ := World.cells?_some h1
      refine ⟨?_, h2, fun k v hk => ?_⟩
      · have h0 := h3 0 hsz
        rw [List.getElem?_eq_getElem (by omega)] at h0
        have := World.block_lt_of_cell? _ _ h0
        rwa [add_block, add_block] at this
      · have hk' : k < sz := Nat.lt_of_lt_of_eq (List.getElem?_eq_some_iff.1 hk).1 h2
        rw [h3 k hk']; exact hk
    · have hj' : j < len := by
        have := (List.getElem?_eq_some_iff.1 hy).1
        simpa using this
      rw [List.getElem?_map, List.getElem?_range hj'] at hy
      simp at hy
      subst hy
      exact ((key j).choose_spec.choose_spec hj').2

theorem tr_trod {TT TL TU TG sl u8 i64 bo u32 : Nat} (K : TreeT P TT TL TU TG sl u8 i64 bo u32) : ∀ (fuel : Nat) (cs : List Value) (x : DataW H × List MemPlace), DataW.trod enc P W 0 (fun _ => true) true fuel TT cs = some x → ∃ t, TrC W W.heap.size t cs := by
  intro fuel
  induction fuel using Nat.strongRecOn with
  | ind fuel ih =>
    intro cs x h
    have hl := struct_len K.f0 h
    rw [K.cT] at hl
    obtain ⟨a0, a1, a2, a3, a4, rfl⟩ : ∃ a0 a1 a2 a3 a4, cs = [a0, a1, a2, a3, a4] := by
      match cs, hl with
      | [a0, a1, a2, a3, a4], _ => exact ⟨a0, a1, a2, a3, a4, rfl⟩
    obtain ⟨n0, y0, _, h0⟩ := field_trod K.f0 K.c64 h
    obtain ⟨n1, y1, _, h1⟩ := field_trod K.f1 K.cs h
    obtain ⟨n2, y2, _, h2⟩ := field_trod K.f2 K.cb h
    obtain ⟨n3, y3, e3, h3⟩ := field_trod K.f3 K.cL h
    obtain ⟨n4, y4, e4, h4⟩ := field_trod K.f4 K.cU h
    simp at h0 h1 h2 h3 h4
    obtain ⟨q, hq, _, hw⟩ := DataW.trod_int K.t64 h0
    obtain ⟨bs, v, hv, ho⟩ := oc_trod K.ts K.t8 K.c8 h1
    obtain ⟨b, hb, _⟩ := DataW.trod_bool K.tb h2
    obtain ⟨l, vl, fl, hvl, hsl, hel⟩ := things_trod K.tl K.cT tr0 (fun c t => TrC W W.heap.size t c) (fun n c y hn hy => ih n (by omega) c y hy) h3 (by decide)
    obtain ⟨u, vu, fu, hvu, hsu, heu⟩ := things_trod K.tu K.cG ((0, []) : Nat × List UInt8) (fun c y => y.1 < 4294967296 ∧ ∃ vv, c = [.int .u32 y.1, vv] ∧ Oc W W.heap.size vv y.2) (fun n c y hn hy => let ⟨z, vv, e, h1, h2⟩ := tag_trod K hy; ⟨z, h1, vv, e, h2⟩) h4 (by decide)
    have e0 : a0 = .int .i64 q := by simpa using hq
    have e1 : a1 = v := by simpa using hv
    have e2 : a2 = .bool b := by simpa using hb
    have e3 : a3 = vl := by simpa using hvl
    have e4 : a4 = vu := by simpa using hvu
    subst e0; subst e1; subst e2; subst e3; subst e4
    have hr : -9223372036854775808 ≤ q ∧ q ≤ 9223372036854775807 := by simpa [Lit.wf, IntKind.min, IntKind.max, IntKind.signed, IntKind.bits] using hw
    exact ⟨.mk q bs b l u, .mk fl fu hr.1 (by omega) ho hsl hel hsu heu⟩

theorem tr_open {TT TL TU TG sl u8 i64 bo u32 : Nat} (K : TreeT P TT TL TU TG sl u8 i64 bo u32) {b0 : Nat} {r : Reach} {v : Value} {d : DataW H} {ps : List MemPlace} (hval : Value.okWide P W r b0 TT v) (h : DataW.Trod enc P W 0 (fun _ => true) true TT v d ps) :
    ∃ t ts, v = .agg ts.toArray ∧ TrC W W.heap.size t ts := by
  obtain ⟨fuel, hf⟩ := h
  obtain ⟨t, ht⟩ := tr_trod K fuel _ _ hf
  obtain ⟨fs, hT, _⟩ := K.f0
  obtain ⟨cs, rfl⟩ : ∃ cs, v = .agg cs := by
    unfold Value.okWide at hval
    rw [hT] at hval
    cases v <;> simp at hval
    exact ⟨_, rfl⟩
  exact ⟨t, cs.toList, rfl, by simpa [Value.cells] using ht⟩
end
end Go.Proofs.Ytcjlboannomanaa.Kf
