/- Small things on messages: types' sizes, defaults that set nothing, what 'again' comes to. -/
import Derived.Test.YtpefipjgcpchaaaGreatDoorRAppI
import Derived.Test.YtpefipjgcpchaaaGreatDoorRPA
import Derived.Test.YtpefipjgcpchaaaGreatDoorRSpA
import Derived.Test.YtpefipjgcpchaaaGreatDoorRKbA
namespace Go.Proofs.YtpefipjgcpchaaaGreatDoorR.Kf
set_option linter.unusedVariables false
set_option linter.unusedSimpArgs false
open Go Go.RowKit

theorem info_of {P : Program} {u n : Nat} (h : (P.info? u).map (·.size) = some n) : ∃ inf, P.info? u = some inf ∧ inf.size = n := by
  cases hi : P.info? u with
  | none => rw [hi] at h; cases h
  | some i => rw [hi] at h; simp at h; exact ⟨i, rfl, h⟩
theorem fieldAt_of {P : Program} {T i k u n : Nat} {fs : Array Field} {f : Field} (hT : P.underlying T = some (.struct fs)) (hf : fs[i]? = some f) (h1 : f.offset = k) (h2 : f.type = u) (hs : (P.info? u).map (·.size) = some n) (hn : 0 < n) : FieldAt P T i k u n :=
  ⟨⟨fs, hT, f, hf, h1, h2⟩, info_of hs, hn⟩
/-- What a slice's things are: size, octets, zero. -/
def elInfo (i : TypeInfo) : Nat × Nat × Option (List Value) := (i.size, i.bytes, i.zero.map fun z => z.cells.toList)
theorem sl_of {P : Program} {TS E n eb : Nat} {zs : List Value} (hT : P.underlying TS = some (.slice E)) (hi : (P.info? E).map elInfo = some (n, eb, some zs)) (hs : (P.info? TS).map (·.size) = some 1) (hn : 0 < n) (hl : zs.length = n) : Sl P TS n eb zs := by
  cases hE : P.info? E with
  | none => rw [hE] at hi; cases hi
  | some i =>
    rw [hE] at hi
    simp only [Option.map_some, elInfo, Option.some.injEq, Prod.mk.injEq] at hi
    obtain ⟨h1, h2, h3⟩ := hi
    cases hz : i.zero with
    | none => rw [hz] at h3; cases h3
    | some z =>
      rw [hz] at h3
      exact ⟨⟨E, hT, i, hE, h1, h2, z, hz, by simpa using h3⟩, ⟨⟨_, hT, rfl⟩, info_of hs⟩, hn, hl⟩
theorem done_ok {P : Program} {fx : Bool} {T lo hi : Nat} (h : lo ≤ hi) : R.done.ok P fx T lo hi := h
def nilsOk (zs : List Value) (l : List (Nat × Bool)) : Bool := l.all fun q => match zs[q.1]? with | some v => isNilS q.2 v | none => false
theorem nils_ok {zs : List Value} {l : List (Nat × Bool)} (h : nilsOk zs l = true) : ∀ q ∈ l, ∃ v, zs[q.1]? = some v ∧ isNilS q.2 v = true := by
  intro q hq
  have := List.all_eq_true.1 h q hq
  cases hz : zs[q.1]? with
  | none => rw [hz] at this; cases this
  | some v => rw [hz] at this; exact ⟨v, rfl, this⟩
theorem nilsZ {z : Array Value} {l : List (Nat × Bool)} (h : nilsOk z.toList l = true) : ∀ q ∈ l, z[q.1]? = some (nilV q.2) := by
  intro q hq
  obtain ⟨v, h1, h2⟩ := nils_ok h q hq
  rw [← Array.getElem?_toList, h1, isNilS_eq h2]
def noAgg : TypeDesc → Bool
  | .struct _ | .array _ _ => false
  | _ => true
theorem one_of {P : Program} {u : Nat} {d : TypeDesc} (hT : P.underlying u = some d) (hd : noAgg d = true) (hs : (P.info? u).map (·.size) = some 1) : One P u := ⟨⟨d, hT, by cases d <;> first | rfl | (simp [noAgg] at hd)⟩, info_of hs⟩

theorem def_skip {P : Program} {F sz : Nat} {ks : List Nat} {fn : Func} (hf : P.funcs[F]? = some fn) (hb : fn.body = some .skip) (hr : fn.results = #[]) (hn : (fn.name == "runtime.NumGoroutine") = false) : DefC P F sz ks := by
  refine ⟨⟨fn, hf, by rw [hb]; rfl, hn⟩, fun w b off N hB hs => ?_⟩
  refine calls_of_wp hf hb (wp_skip (bodyPost_end (results_none hr _ _ _) rfl ?_))
  exact ⟨_, rfl, Only.refl _ _, Upd.same rfl, fun _ _ => rfl⟩

/-- Octets of the call's own, as the reader takes them. -/
theorem Own.sp {U base : Nat} {w : World} {v : Value} {bs : List UInt8} (h : Own U base w v bs) (h0 : 0 < w.heap.size) (hb0 : 1 ≤ base) : ∃ D nn A n c, v = .slice A n c ∧ Sp w D nn v bs ∧ D < w.heap.size ∧ (D = 0 ∨ base ≤ D) := by
  have hlt := World.ownsRow.lt h
  have hc : ∀ g, v.ownBlock = some g → ∀ j u, (bs.map u8v)[j]? = some u → w.cell? ((⟨g, 0, none⟩ : Addr).add j) = some u := fun g hg => World.ownsRow.cells h hg
  rcases h.2 with ⟨rfl, hn⟩ | ⟨g, cap, cur, rfl, hbg, hg, hn, _⟩
  · exact ⟨0, false, none, 0, 0, rfl, .inl ⟨rfl, rfl, List.eq_nil_of_length_eq_zero hn⟩, h0, .inl rfl⟩
  · refine ⟨g, true, _, _, cap, rfl, .inr ⟨rfl, 0, cap, rfl, hn, fun j b hb => ?_⟩, (hlt g rfl).2, .inr hbg⟩
    have := hc g rfl j (u8v b) (by rw [List.getElem?_map, hb]; rfl)
    rwa [Addr.add_lit] at this

end Go.Proofs.YtpefipjgcpchaaaGreatDoorR.Kf
