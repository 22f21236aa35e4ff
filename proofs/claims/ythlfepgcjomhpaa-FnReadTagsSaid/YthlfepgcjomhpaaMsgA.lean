/- Small things on messages: types' sizes, defaults that set nothing, what 'again' comes to. -/
import Derived.Test.YthlfepgcjomhpaaAppI
import Derived.Test.YthlfepgcjomhpaaPA
import Derived.Test.YthlfepgcjomhpaaSpA
import Derived.Test.YthlfepgcjomhpaaKbA
namespace Go.Proofs.Ythlfepgcjomhpaa.Kf
set_option linter.unusedVariables false
set_option linter.unusedSimpArgs false
open Go Go.RowKit

theorem info_of {P : Program} {u n : Nat} (h : (P.info? u).map (·.size) = some n) : ∃ inf, P.info? u = some inf ∧ inf.size = n := by
  cases hi : P.info? u with
  | none => rw [hi] at h; cases h
  | some i => rw [hi] at h; simp at h; exact ⟨i, rfl, h⟩
theorem fieldAt_of {P : Program} {T i k u n : Nat} {fs : Array Field} {f : Field} (hT : P.underlying T = some (.struct fs)) (hf : fs[i]? = some f) (h1 : f.offset = k) (h2 : f.type = u) (hs : (P.info? u).map (·.size) = some n) (hn : 0 < n) : FieldAt P T i k u n :=
  ⟨⟨fs, hT, f, hf, h1, h2⟩, info_of hs, hn⟩
/-- What a slice's things are: size, octets, zero. -/
def elInfo (i : TypeInfo) : Nat × Nat × Option (List Value) := (i.size, i.bytes, i.zero.map fun z => z.cells.toList)
theorem sl_of {P : Program} {TS E n eb : Nat} {zs : List Value} (hT : P.underlying TS = some (.slice E)) (hi : (P.info? E).map elInfo = some (n, eb, some zs)) (hs : (P.info? TS).map (·.size) = some 1) (hn : 0 < n) (hl : zs.length = n) : Sl P TS n eb zs := by
  cases hE : P.info? E with
  | none => rw [hE] at hi; cases hi
  | some i =>
    rw [hE] at hi
    simp only [Option.map_some, elInfo, Option.some.injEq, Prod.mk.injEq] at hi
    obtain ⟨h1, h2, h3⟩ := hi
    cases hz : i.zero with
    | none => rw [hz] at h3; cases h3
    | some z =>
      rw [hz] at h3
      exact ⟨⟨E, hT, i, hE, h1, h2, z, hz, by simpa using h3⟩, ⟨⟨_, hT, rfl⟩, info_of hs⟩, hn, hl⟩
theorem done_ok {P : Program} {fx : Bool} {T lo hi : Nat} (h : lo ≤ hi) : R.done.ok P fx T lo hi := h
def nilsOk (zs : List Value) (l : List (Nat × Bool)) : Bool := l.all fun q => match zs[q.1]? with | some v => isNilS q.2 v | none => false
theorem nils_ok {zs : List Value} {l : List (Nat × Bool)} (h : nilsOk zs l = true) : ∀ q ∈ l, ∃ v, zs[q.1]? = some v ∧ isNilS q.2 v = true := by
  intro q hq
  have := List.all_eq_true.1 h q hq
  cases hz : zs[q.1]? with
  | none => rw [hz] at this; cases this
  | some v => rw [hz] at this; exact ⟨v, rfl, this⟩
theorem nils_okA {zs : List Value} {l : List (Nat × Bool)} (h : nilsOk zs l = true) : ∀ q ∈ l, ∃ v, zs.toArray[q.1]? = some v ∧ isNilS q.2 v = true := fun q hq => by simpa using nils_ok h q hq
theorem i8C {P : Program} {F : Nat} (h : NumC P F .i8) : I8C P F := by
  refine ⟨h.1, fun D rb w nn bs bad hr hl => (h.2 D rb w nn bs bad hr hl).mono ?_⟩
  rintro e w' ⟨n, rfl, h0, h1, ho, hc⟩
  refine ⟨_, rfl, n, rfl, ho, ?_⟩
  rcases hc with ⟨a, b, c, d⟩ | ⟨a, b, d⟩
  · cases bs with
    | nil => simp [Prim.n] at b
    | cons x l =>
      refine .inl ⟨a, x, l, rfl, ?_, by simpa [Prim.n] using d⟩
      have hx := x.toNat_lt
      have e : n = if x.toNat < 128 then (x.toNat : Int) else (x.toNat : Int) - 256 := by
        rw [c]
        simp only [Prim.n, List.take_succ_cons, List.take_zero, beDec, Prim.conv, List.length_nil, Nat.pow_zero, Nat.mul_one, Nat.add_zero]
      rw [e]
      constructor
      · intro h
        have : x.toNat = 255 := by split at h <;> omega
        exact UInt8.toNat_inj.1 this
      · rintro rfl
        decide
  · exact .inr ⟨a, b.imp id fun h => by cases bs; rfl; simp [Prim.n] at h, d⟩
theorem oct_of {P : Program} {sl U : Nat} (h1 : P.underlying sl = some (.slice U)) (h2 : (P.info? U).map (fun i => (i.zero, i.size, i.bytes)) = some (some (.int .u8 0), 1, 1)) : OctT P sl U := by
  obtain ⟨i, hi, he⟩ := Option.map_eq_some_iff.1 h2
  simp only [Prod.mk.injEq] at he
  exact ⟨h1, i, hi, he.1, he.2.1, he.2.2⟩
theorem nilsZ {z : Array Value} {l : List (Nat × Bool)} (h : nilsOk z.toList l = true) : ∀ q ∈ l, z[q.1]? = some (nilV q.2) := by
  intro q hq
  obtain ⟨v, h1, h2⟩ := nils_ok h q hq
  rw [← Array.getElem?_toList, h1, isNilS_eq h2]
def noAgg : TypeDesc → Bool
  | .struct _ | .array _ _ => false
  | _ => true
theorem one_of {P : Program} {u : Nat} {d : TypeDesc} (hT : P.underlying u = some d) (hd : noAgg d = true) (hs : (P.info? u).map (·.size) = some 1) : One P u := ⟨⟨d, hT, by cases d <;> first | rfl | (simp [noAgg] at hd)⟩, info_of hs⟩

theorem def_skip {P : Program} {F sz : Nat} {ks : List Nat} {fn : Func} (hf : P.funcs[F]? = some fn) (hb : fn.body = some .skip) (hr : fn.results = #[]) (hn : (fn.name == "runtime.NumGoroutine") = false) : DefC P F sz ks := by
  refine ⟨⟨fn, hf, by rw [hb]; rfl, hn⟩, fun w b off N hB hs => ?_⟩
  refine calls_of_wp hf hb (wp_skip (bodyPost_end (results_none hr _ _ _) rfl ?_))
  exact ⟨_, rfl, Only.refl _ _, Upd.same rfl, fun _ _ => rfl⟩

/-- What 'again' comes to: read, and written; or refused. -/
def AgP (U : Nat) (kept : Option Nat) (ver0 : Int) (W : Int → W) (out : Int → Val → List UInt8) (w : World) (bs : List UInt8) (e : Ending) (w' : World) : Prop :=
  ∃ v ok, e = .returned (.tuple #[v, .bool ok]) ∧ Only (fun _ => False) w w' ∧
    ((ok = true ∧ ∃ ver bs0 x bs', VerOf kept ver0 bs ver bs0 ∧ dec (W ver) bs0 = some (x, bs') ∧ Own U w.heap.size w' v (out ver x)) ∨
      (ok = false ∧ v = .slice none 0 0 ∧ ∀ ver bs0, VerOf kept ver0 bs ver bs0 → dec (W ver) bs0 = none))

/-- Octets of the call's own, as the reader takes them. -/
theorem Own.sp {U base : Nat} {w : World} {v : Value} {bs : List UInt8} (h : Own U base w v bs) (h0 : 0 < w.heap.size) (hb0 : 1 ≤ base) : ∃ D nn A n c, v = .slice A n c ∧ Sp w D nn v bs ∧ D < w.heap.size ∧ (D = 0 ∨ base ≤ D) := by
  have hlt := World.ownsRow.lt h
  have hc : ∀ g, v.ownBlock = some g → ∀ j u, (bs.map u8v)[j]? = some u → w.cell? ((⟨g, 0, none⟩ : Addr).add j) = some u := fun g hg => World.ownsRow.cells h hg
  rcases h.2 with ⟨rfl, hn⟩ | ⟨g, cap, cur, rfl, hbg, hg, hn, _⟩
  · exact ⟨0, false, none, 0, 0, rfl, .inl ⟨rfl, rfl, List.eq_nil_of_length_eq_zero hn⟩, h0, .inl rfl⟩
  · refine ⟨g, true, _, _, cap, rfl, .inr ⟨rfl, 0, cap, rfl, hn, fun j b hb => ?_⟩, (hlt g rfl).2, .inr hbg⟩
    have := hc g rfl j (u8v b) (by rw [List.getElem?_map, hb]; rfl)
    rwa [Addr.add_lit] at this

/-- A reading that goes well; one that does not. -/
theorem readP_good {F : Nat} {fx : Option Int} {r : R} {sz D b : Nat} {w w' : World} {bs : List UInt8} {ver0 : Int} {e : Ending} (h : ReadP (some F) fx r sz D b w bs ver0 e w') (hok : ∃ ver bs0 x bs', primDec .i16 bs = some (.int ver, bs0) ∧ dec (r.m ver (flexOf fx ver)).w bs0 = some (x, bs')) :
    e = .returned .nilIface ∧ Only (· = b) w w' ∧ ∃ ver bs0 x bs' lo h2, primDec .i16 bs = some (.int ver, bs0) ∧ dec (r.m ver (flexOf fx ver)).w bs0 = some (x, bs') ∧ w'.cell? ⟨b, 0, none⟩ = some (.int .i16 ver) ∧ w.heap.size ≤ lo ∧ h2 ≤ w'.heap.size ∧ Holds D (r.m ver (flexOf fx ver)) w' lo h2 b 0 x := by
  obtain ⟨v, rfl, ho, _, h⟩ := h
  rcases h with ⟨ver, bs0, x, bs', lo, h2, hv, hd, rfl, hc, hl, hh, hH⟩ | ⟨hno, _⟩
  · exact ⟨rfl, ho, ver, bs0, x, bs', lo, h2, hv, hd, hc, hl, hh, hH⟩
  · obtain ⟨ver, bs0, x, bs', hv, hd⟩ := hok
    rw [hno ver bs0 hv] at hd; cases hd
theorem readP_bad {F : Nat} {fx : Option Int} {r : R} {sz D b : Nat} {w w' : World} {bs : List UInt8} {ver0 : Int} {e : Ending} (h : ReadP (some F) fx r sz D b w bs ver0 e w') (hno : ¬ ∃ ver bs0 x bs', primDec .i16 bs = some (.int ver, bs0) ∧ dec (r.m ver (flexOf fx ver)).w bs0 = some (x, bs')) :
    ∃ t u, e = .returned (.iface t u) ∧ Only (· = b) w w' := by
  obtain ⟨v, rfl, ho, _, h⟩ := h
  rcases h with ⟨ver, bs0, x, bs', lo, h2, hv, hd, rfl, hc, hl, hh, hH⟩ | ⟨_, t, u, rfl⟩
  · exact absurd ⟨ver, bs0, x, bs', hv, hd⟩ hno
  · exact ⟨t, u, rfl, ho⟩
theorem own_ne0 {D b : Nat} (h : D = 0 ∨ b + 1 ≤ D) (hb : 0 < b) : b ≠ D := by omega
theorem holds_kept {D b lo hi : Nat} {w : World} {m : M} {ver : Int} {x : Val} (hv : w.cell? ⟨b, 0, none⟩ = some (.int .i16 ver)) (hr : Prim.i16.lo ≤ ver ∧ ver < Prim.i16.hi) (h : Holds D m w lo hi b 0 x) : Holds D (.fld 0 (.prim .i16) m) w lo hi b 0 (.pair (.int ver) x) :=
  ⟨lo, .int ver, x, rfl, ⟨Nat.le_refl _, [.int .i16 ver], fun j v hj => by
    match j, hj with
    | 0, hj => simp at hj; subst hj; simpa using hv, .inl ⟨by decide, ver, rfl, hr.1, hr.2, rfl⟩⟩, h⟩
end Go.Proofs.Ythlfepgcjomhpaa.Kf
