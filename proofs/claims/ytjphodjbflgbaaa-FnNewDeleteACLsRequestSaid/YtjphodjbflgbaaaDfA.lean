/- Defaults: some fields are set to constants. -/
import Derived.Test.YtjphodjbflgbaaaAgA
namespace Go.Proofs.Ytjphodjbflgbaaa.Kf
set_option linter.unusedVariables false
set_option linter.unusedSimpArgs false
open Go Go.RowKit

/-- A field, its place, its type, what it is set to. -/
structure DS where
  i : Nat
  o : Nat
  u : Nat
  v : Value

def gDs (T : Nat) (x : DS) (m : Nat) (c : Code) : Code := reg [⟨some m, .move (.tmp 0), none⟩, ⟨some (m + 1), .nilCheck (.tmp m), none⟩, ⟨some (m + 2), .fieldAddr T (.tmp (m + 1)) x.i, none⟩, ⟨none, .store x.u (.tmp (m + 2)) (.const x.v), none⟩] c
def gDsl (T : Nat) : List DS → Nat → Code → Code
  | [], _, _ => .skip
  | [x], m, c => gDs T x m c
  | x :: y :: l, m, c => .seq (gDs T x m (pc c [0])) (gDsl T (y :: l) (m + 3) (pc c [1]))

def DS.ok (P : Program) (T sz : Nat) (ks : List Nat) (x : DS) : Prop := FieldAt P T x.i x.o x.u 1 ∧ x.v.oneCell' = true ∧ x.v.cells = #[x.v] ∧ x.o < sz ∧ ∀ q ∈ ks, q ≠ x.o

/-- What stays and what turns. -/
def DW (b off sz N : Nat) (ks : List Nat) (w w' : World) : Prop := Blk w' b N ∧ Only (· = b) w w' ∧ Upd b off (off + sz) w w' ∧ ∀ o ∈ ks, w'.cell? ⟨b, off + o, none⟩ = w.cell? ⟨b, off + o, none⟩

section
variable {P : Program} {Q : Exit → Act → World → Prop}
theorem gDs_wp {T sz b off N m : Nat} {ks : List Nat} {x : DS} (hx : x.ok P T sz ks) (hN : off + sz ≤ N) {a : Act} {w0 w : World} (hm : m + 3 ≤ a.tmps.size) (h2 : 0 < m) (h0 : gt a 0 = .pointer (some ⟨b, off, none⟩)) (hd : a.defers = []) (hw : DW b off sz N ks w0 w) {c : Code}
    (h : ∀ a' w', a'.tmps.size = a.tmps.size → a'.defers = [] → gt a' 0 = .pointer (some ⟨b, off, none⟩) → DW b off sz N ks w0 w' → Q .normal a' w') : (gDs T x m c).wp P Q a w := by
  obtain ⟨hf, hv1, hv2, ho, hk⟩ := hx
  obtain ⟨hb, hO, hU, hK⟩ := hw
  refine wp_reg (stV (by omega) (runs_move _) fun b1 k1 => ?_)
  have e1 : b1.eval (.tmp m) = .pointer (some ⟨b, off, none⟩) := by rw [evT, k1.new, evT, h0]
  refine stV (by rw [k1.size]; omega) (runs_nilCheck (p := ⟨b, off, none⟩) e1) fun b2 k2 => stV (by rw [k2.size, k1.size]; omega) (runs_fieldAddr hf (p := ⟨b, off, none⟩) k2.new) fun b3 k3 => ?_
  have k3n := k3.new
  rw [Addr.add_lit] at k3n
  obtain ⟨w2, hrun, hw⟩ := runs_storeN (P := P) (a := b3) (u := x.u) (x := .tmp (m + 2)) (y := .const x.v) (b := b) (o := off + x.o) (n := N) (v := x.v) k3n rfl (by obtain ⟨inf, hi, hz⟩ := hf.sz; exact ⟨inf, hi, by rw [hz, hv2]; rfl⟩) (by intro c hc; rw [hv2] at hc; simp at hc; subst hc; exact hv1) hb (by rw [hv2]; simp; omega)
  refine wpC_skip hrun (wpC_nil ?_)
  have hu := hw.upd
  rw [hv2] at hu
  have hu' : Upd b (off + x.o) (off + x.o + 1) w w2 := by simpa using hu
  refine h _ _ (by rw [k3.size, k2.size, k1.size]) (by rw [k3.defers, k2.defers, k1.defers, hd]) (by rw [k3.old 0 (by omega), k2.old 0 (by omega), k1.old 0 (by omega), h0]) ⟨hu'.blk hb, hO.trans hw.only, hU.trans (hu'.mono (by omega) (by omega)), fun o hko => ?_⟩
  rw [hu'.cell hb (by have := hk o hko; omega)]
  exact hK o hko

theorem gDsl_wp {T sz b off N : Nat} {ks : List Nat} : ∀ (l : List DS) (m : Nat) (c : Code) (a : Act) (w0 w : World), (∀ x ∈ l, x.ok P T sz ks) → off + sz ≤ N → m + 3 * l.length ≤ a.tmps.size → 0 < m → gt a 0 = .pointer (some ⟨b, off, none⟩) → a.defers = [] → DW b off sz N ks w0 w →
    (∀ a' w', a'.defers = [] → DW b off sz N ks w0 w' → Q .normal a' w') → (gDsl T l m c).wp P Q a w
  | [], m, c, a, w0, w, _, _, _, _, _, hd, hw, h => wp_skip (h _ _ hd hw)
  | [x], m, c, a, w0, w, hx, hN, hm, h2, h0, hd, hw, h => gDs_wp (hx x (by simp)) hN (by simpa using hm) h2 h0 hd hw fun a' w' _ hd' _ hw' => h a' w' hd' hw'
  | x :: y :: l, m, c, a, w0, w, hx, hN, hm, h2, h0, hd, hw, h => by
    refine wp_seq (gDs_wp (hx x (by simp)) hN (by simp at hm; omega) h2 h0 hd hw fun a' w' hs hd' h0' hw' => ?_)
    exact gDsl_wp (y :: l) (m + 3) _ a' w0 w' (fun z hz => hx z (by simp [hz])) hN (by rw [hs]; simp at hm ⊢; omega) (by omega) h0' hd' hw' h

theorem def_set {F T sz NT : Nat} {ks : List Nat} {fn : Func} {l : List DS} (hf : P.funcs[F]? = some fn) (c0 : Code) (hb : fn.body = some (gDsl T l 2 c0)) (hr : fn.results = #[]) (hnt : fn.ntmps = NT) (hN : 2 + 3 * l.length ≤ NT) (hn : (fn.name == "runtime.NumGoroutine") = false) (hx : ∀ x ∈ l, x.ok P T sz ks) : DefC P F sz ks := by
  refine ⟨⟨fn, hf, by rw [hb]; rfl, hn⟩, fun w b off N hB hs => ?_⟩
  refine calls_of_wp hf hb ?_
  obtain ⟨a, ha, asz, adf, ag⟩ := start_act #[.pointer (some ⟨b, off, none⟩)] fn.ntmps (by rw [hnt]; simp; omega)
  rw [← ha]
  refine gDsl_wp l 2 c0 a w w hx hs (by rw [asz, hnt]; exact hN) (by decide) (ag 0 _ rfl) adf ⟨hB, Only.refl _ _, Upd.same rfl, fun _ _ => rfl⟩ fun a' w' hd hw => ?_
  exact bodyPost_end (results_none hr _ _ _) hd ⟨_, rfl, hw.2.1, hw.2.2.1, hw.2.2.2⟩
end
end Go.Proofs.Ytjphodjbflgbaaa.Kf
