/- Defaults: some fields are set to constants. -/
import Derived.Test.YtpefipjgcpchaaaGreatDoorRAgA
namespace Go.Proofs.YtpefipjgcpchaaaGreatDoorR.Kf
set_option linter.unusedVariables false
set_option linter.unusedSimpArgs false
open Go Go.RowKit

/-- A field, its place, its type, what it is set to. -/
structure DS where
  i : Nat
  o : Nat
  u : Nat
  v : Value

def gDs (T s : Nat) (x : DS) (m : Nat) (c : Code) : Code := reg [⟨some m, .move (.tmp s), none⟩, ⟨some (m + 1), .nilCheck (.tmp m), none⟩, ⟨some (m + 2), .fieldAddr T (.tmp (m + 1)) x.i, none⟩, ⟨none, .store x.u (.tmp (m + 2)) (.const x.v), none⟩] c
def gDsl (T s : Nat) : List DS → Nat → Code → Code
  | [], _, _ => .skip
  | [x], m, c => gDs T s x m c
  | x :: y :: l, m, c => .seq (gDs T s x m (pc c [0])) (gDsl T s (y :: l) (m + 3) (pc c [1]))
/-- A field that is set, or a field's address taken and parts behind it set. -/
inductive DI
  | set (x : DS)
  | adr (i o u n T : Nat) (sub : List DS)
def DI.nv : DI → Nat
  | .set _ => 0
  | .adr _ _ _ _ _ _ => 1
def DI.nt : DI → Nat
  | .set _ => 3
  | .adr _ _ _ _ _ sub => 4 + 3 * sub.length
def gDi (T : Nat) : DI → (kv m : Nat) → Code → Code
  | .set x, _, m, c => gDs T 0 x m c
  | .adr i _ _ _ T' sub, kv, m, c => .seq (reg [⟨some m, .move (.tmp 0), none⟩, ⟨some (m + 1), .nilCheck (.tmp m), none⟩, ⟨some (m + 2), .fieldAddr T (.tmp (m + 1)) i, none⟩, ⟨some kv, .assign (.tmp (m + 2)), none⟩] (pc c [0]))
    (match sub with
      | [] => reg [⟨some (m + 3), .move (.tmp kv), none⟩] (pc c [1])
      | x :: l => .seq (reg [⟨some (m + 3), .move (.tmp kv), none⟩] (pc c [1, 0])) (gDsl T' kv (x :: l) (m + 4) (pc c [1, 1])))
def gDil (T : Nat) : List DI → (kv m : Nat) → Code → Code
  | [], _, _, _ => .skip
  | [x], kv, m, c => gDi T x kv m c
  | x :: y :: l, kv, m, c => .seq (gDi T x kv m (pc c [0])) (gDil T (y :: l) (kv + x.nv) (m + x.nt) (pc c [1]))
def nvs : List DI → Nat
  | [] => 0
  | x :: l => x.nv + nvs l
def nts : List DI → Nat
  | [] => 0
  | x :: l => x.nt + nts l

def DS.ok (P : Program) (T sz d : Nat) (ks : List Nat) (x : DS) : Prop := FieldAt P T x.i x.o x.u 1 ∧ x.v.oneCell' = true ∧ x.v.cells = #[x.v] ∧ d + x.o < sz ∧ ∀ q ∈ ks, q ≠ d + x.o
def DI.ok (P : Program) (T sz : Nat) (ks : List Nat) : DI → Prop
  | .set x => x.ok P T sz 0 ks
  | .adr i o u n T' sub => FieldAt P T i o u n ∧ ∀ x ∈ sub, x.ok P T' sz o ks

/-- What stays and what turns. -/
def DW (b off sz N : Nat) (ks : List Nat) (w w' : World) : Prop := Blk w' b N ∧ Only (· = b) w w' ∧ Upd b off (off + sz) w w' ∧ ∀ o ∈ ks, w'.cell? ⟨b, off + o, none⟩ = w.cell? ⟨b, off + o, none⟩

section
variable {P : Program} {Q : Exit → Act → World → Prop}
theorem gDs_wp {T s d sz b off N m : Nat} {ks : List Nat} {x : DS} (hx : x.ok P T sz d ks) (hN : off + sz ≤ N) {a : Act} {w0 w : World} (hm : m + 3 ≤ a.tmps.size) (h2 : s < m) (h0 : gt a s = .pointer (some ⟨b, off + d, none⟩)) (hd : a.defers = []) (hw : DW b off sz N ks w0 w) {c : Code}
    (h : ∀ a' w', a'.tmps.size = a.tmps.size → a'.defers = [] → (∀ j, j < m → gt a' j = gt a j) → DW b off sz N ks w0 w' → Q .normal a' w') : (gDs T s x m c).wp P Q a w := by
  obtain ⟨hf, hv1, hv2, ho, hk⟩ := hx
  obtain ⟨hb, hO, hU, hK⟩ := hw
  refine wp_reg (stV (by omega) (runs_move _) fun b1 k1 => ?_)
  have e1 : b1.eval (.tmp m) = .pointer (some ⟨b, off + d, none⟩) := by rw [evT, k1.new, evT, h0]
  refine stV (by rw [k1.size]; omega) (runs_nilCheck (p := ⟨b, off + d, none⟩) e1) fun b2 k2 => stV (by rw [k2.size, k1.size]; omega) (runs_fieldAddr hf (p := ⟨b, off + d, none⟩) k2.new) fun b3 k3 => ?_
  have k3n := k3.new
  rw [Addr.add_lit] at k3n
  obtain ⟨w2, hrun, hw⟩ := runs_storeN (P := P) (a := b3) (u := x.u) (x := .tmp (m + 2)) (y := .const x.v) (b := b) (o := off + d + x.o) (n := N) (v := x.v) k3n rfl (by obtain ⟨inf, hi, hz⟩ := hf.sz; exact ⟨inf, hi, by rw [hz, hv2]; rfl⟩) (by intro c hc; rw [hv2] at hc; simp at hc; subst hc; exact hv1) hb (by rw [hv2]; simp; omega)
  refine wpC_skip hrun (wpC_nil ?_)
  have hu := hw.upd
  rw [hv2] at hu
  have hu' : Upd b (off + d + x.o) (off + d + x.o + 1) w w2 := by simpa using hu
  refine h _ _ (by rw [k3.size, k2.size, k1.size]) (by rw [k3.defers, k2.defers, k1.defers, hd]) (fun j hj => by rw [k3.old j (by omega), k2.old j (by omega), k1.old j (by omega)]) ⟨hu'.blk hb, hO.trans hw.only, hU.trans (hu'.mono (by omega) (by omega)), fun o hko => ?_⟩
  rw [hu'.cell hb (by have := hk o hko; omega)]
  exact hK o hko

theorem gDsl_wp {T s d sz b off N : Nat} {ks : List Nat} : ∀ (l : List DS) (m : Nat) (c : Code) (a : Act) (w0 w : World), (∀ x ∈ l, x.ok P T sz d ks) → off + sz ≤ N → m + 3 * l.length ≤ a.tmps.size → s < m → gt a s = .pointer (some ⟨b, off + d, none⟩) → a.defers = [] → DW b off sz N ks w0 w →
    (∀ a' w', a'.tmps.size = a.tmps.size → a'.defers = [] → (∀ j, j < m → gt a' j = gt a j) → DW b off sz N ks w0 w' → Q .normal a' w') → (gDsl T s l m c).wp P Q a w
  | [], m, c, a, w0, w, _, _, _, _, _, hd, hw, h => wp_skip (h _ _ rfl hd (fun _ _ => rfl) hw)
  | [x], m, c, a, w0, w, hx, hN, hm, h2, h0, hd, hw, h => gDs_wp (hx x (by simp)) hN (by simpa using hm) h2 h0 hd hw fun a' w' hs hd' hj hw' => h a' w' hs hd' hj hw'
  | x :: y :: l, m, c, a, w0, w, hx, hN, hm, h2, h0, hd, hw, h => by
    refine wp_seq (gDs_wp (hx x (by simp)) hN (by simp at hm; omega) h2 h0 hd hw fun a' w' hs hd' hj hw' => ?_)
    exact gDsl_wp (y :: l) (m + 3) _ a' w0 w' (fun z hz => hx z (by simp [hz])) hN (by rw [hs]; simp at hm ⊢; omega) (by omega) ((hj s h2).trans h0) hd' hw' fun a2 w2 hs2 hd2 hj2 hw2 => h a2 w2 (hs2.trans hs) hd2 (fun j hj3 => (hj2 j (by omega)).trans (hj j hj3)) hw2

theorem gDi_wp {T sz b off N kv m : Nat} {ks : List Nat} {x : DI} (hx : x.ok P T sz ks) (hN : off + sz ≤ N) {a : Act} {w0 w : World} (hm : m + x.nt ≤ a.tmps.size) (h2 : 0 < kv) (hkm : kv + x.nv ≤ m) (h0 : gt a 0 = .pointer (some ⟨b, off, none⟩)) (hd : a.defers = []) (hw : DW b off sz N ks w0 w) {c : Code}
    (h : ∀ a' w', a'.tmps.size = a.tmps.size → a'.defers = [] → gt a' 0 = .pointer (some ⟨b, off, none⟩) → DW b off sz N ks w0 w' → Q .normal a' w') : (gDi T x kv m c).wp P Q a w := by
  cases x with
  | set x => exact gDs_wp (s := 0) (d := 0) hx hN (by simpa [DI.nt] using hm) (by simp only [DI.nv] at hkm; omega) (by simpa using h0) hd hw fun a' w' hs hd' hj hw' => h a' w' hs hd' ((hj 0 (by simp only [DI.nv] at hkm; omega)).trans h0) hw'
  | adr i o u n T' sub =>
    obtain ⟨hf, hsub⟩ := hx
    simp only [DI.nv] at hkm
    simp only [DI.nt] at hm
    refine wp_seq (wp_reg (stV (by omega) (runs_move _) fun b1 k1 => ?_))
    have e1 : b1.eval (.tmp m) = .pointer (some ⟨b, off, none⟩) := by rw [evT, k1.new, evT, h0]
    refine stV (by rw [k1.size]; omega) (runs_nilCheck (p := ⟨b, off, none⟩) e1) fun b2 k2 => stV (by rw [k2.size, k1.size]; omega) (runs_fieldAddr hf (p := ⟨b, off, none⟩) k2.new) fun b3 k3 => ?_
    have k3n := k3.new
    rw [Addr.add_lit] at k3n
    refine stV (by rw [k3.size, k2.size, k1.size]; omega) (runs_assign _) fun b4 k4 => wpC_nil ?_
    have v4 : gt b4 kv = .pointer (some ⟨b, off + o, none⟩) := by rw [k4.new, evT, k3n]
    have z4 : gt b4 0 = .pointer (some ⟨b, off, none⟩) := by rw [k4.old 0 (by omega), k3.old 0 (by omega), k2.old 0 (by omega), k1.old 0 (by omega), h0]
    have s4 : b4.tmps.size = a.tmps.size := by rw [k4.size, k3.size, k2.size, k1.size]
    have d4 : b4.defers = [] := by rw [k4.defers, k3.defers, k2.defers, k1.defers, hd]
    cases sub with
    | nil =>
      refine wp_reg (stV (by rw [s4]; simp at hm; omega) (runs_move _) fun b5 k5 => wpC_nil ?_)
      exact h b5 w (by rw [k5.size, s4]) (by rw [k5.defers, d4]) (by rw [k5.old 0 (by omega), z4]) hw
    | cons x l =>
      refine wp_seq (wp_reg (stV (by rw [s4]; simp at hm; omega) (runs_move _) fun b5 k5 => wpC_nil ?_))
      refine gDsl_wp (d := o) (x :: l) (m + 4) _ b5 w0 w hsub hN (by rw [k5.size, s4]; omega) (by omega) (by rw [k5.old kv (by omega), v4]) (by rw [k5.defers, d4]) hw fun a' w' hs hd' hj hw' => ?_
      exact h a' w' (by rw [hs, k5.size, s4]) hd' (by rw [hj 0 (by omega), k5.old 0 (by omega), z4]) hw'

theorem gDil_wp {T sz b off N : Nat} {ks : List Nat} : ∀ (l : List DI) (kv m : Nat) (c : Code) (a : Act) (w0 w : World), (∀ x ∈ l, x.ok P T sz ks) → off + sz ≤ N → m + nts l ≤ a.tmps.size → 0 < kv → kv + nvs l ≤ m → gt a 0 = .pointer (some ⟨b, off, none⟩) → a.defers = [] → DW b off sz N ks w0 w →
    (∀ a' w', a'.defers = [] → DW b off sz N ks w0 w' → Q .normal a' w') → (gDil T l kv m c).wp P Q a w
  | [], kv, m, c, a, w0, w, _, _, _, _, _, _, hd, hw, h => wp_skip (h _ _ hd hw)
  | [x], kv, m, c, a, w0, w, hx, hN, hm, h2, hk, h0, hd, hw, h => gDi_wp (hx x (by simp)) hN (by simpa [nts] using hm) h2 (by simpa [nvs] using hk) h0 hd hw fun a' w' _ hd' _ hw' => h a' w' hd' hw'
  | x :: y :: l, kv, m, c, a, w0, w, hx, hN, hm, h2, hk, h0, hd, hw, h => by
    have e1 : nts (x :: y :: l) = x.nt + nts (y :: l) := rfl
    have e2 : nvs (x :: y :: l) = x.nv + nvs (y :: l) := rfl
    rw [e1] at hm
    rw [e2] at hk
    refine wp_seq (gDi_wp (hx x (by simp)) hN (by omega) h2 (by omega) h0 hd hw fun a' w' hs hd' h0' hw' => ?_)
    exact gDil_wp (y :: l) (kv + x.nv) (m + x.nt) _ a' w0 w' (fun z hz => hx z (by simp [hz])) hN (by rw [hs]; omega) (by omega) (by omega) h0' hd' hw' h

theorem def_set {F T sz NT : Nat} {ks : List Nat} {fn : Func} {l : List DI} (hf : P.funcs[F]? = some fn) (c0 : Code) (hb : fn.body = some (gDil T l 2 (2 + nvs l) c0)) (hr : fn.results = #[]) (hnt : fn.ntmps = NT) (hN : 2 + nvs l + nts l ≤ NT) (hn : (fn.name == "runtime.NumGoroutine") = false) (hx : ∀ x ∈ l, x.ok P T sz ks) : DefC P F sz ks := by
  refine ⟨⟨fn, hf, by rw [hb]; rfl, hn⟩, fun w b off N hB hs => ?_⟩
  refine calls_of_wp hf hb ?_
  obtain ⟨a, ha, asz, adf, ag⟩ := start_act #[.pointer (some ⟨b, off, none⟩)] fn.ntmps (by rw [hnt]; simp; omega)
  rw [← ha]
  refine gDil_wp l 2 (2 + nvs l) c0 a w w hx hs (by rw [asz, hnt]; exact hN) (by decide) (Nat.le_refl _) (ag 0 _ rfl) adf ⟨hB, Only.refl _ _, Upd.same rfl, fun _ _ => rfl⟩ fun a' w' hd hw => ?_
  exact bodyPost_end (results_none hr _ _ _) hd ⟨_, rfl, hw.2.1, hw.2.2.1, hw.2.2.2⟩
end
end Go.Proofs.YtpefipjgcpchaaaGreatDoorR.Kf
