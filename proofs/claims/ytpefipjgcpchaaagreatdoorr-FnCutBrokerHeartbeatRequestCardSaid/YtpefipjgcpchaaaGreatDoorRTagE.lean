/- Tags are written: one (a closure over the octets' variable); the keys' order. -/
import Derived.Test.YtpefipjgcpchaaaGreatDoorRTagS
import Derived.Test.YtpefipjgcpchaaaGreatDoorRTagB
import Derived.Test.YtpefipjgcpchaaaGreatDoorRKbI
import Derived.OneCell
import Derived.Deep.QuietTactic
namespace Go.Proofs.YtpefipjgcpchaaaGreatDoorR.Kf
set_option linter.unusedVariables false
set_option linter.unusedSimpArgs false
open Go Go.RowKit

/-- The octets' variable in its box. -/
def BB (b : Nat) (w : World) (v : Value) : Prop := w.heap[b]? = some (.cells #[v] 22 (0, 0))
theorem row_ne_box {base e size n b t : Nat} {w : World} {v u : Value} {xs : List Value} (h : w.ownsRow base e size v n xs) (hb : w.heap[b]? = some (.cells #[u] t (0, 0))) (hne : t ≠ e) : v.ownBlock ≠ some b := by
  rcases h.2 with ⟨rfl, _⟩ | ⟨g, cap, cur, rfl, _, hg, _⟩
  · simp [Value.ownBlock]
  · intro e1
    have : g = b := by simpa [Value.ownBlock] using e1
    subst this
    rw [hb] at hg
    injection hg with hg
    injection hg with _ hg
    exact hne hg
/-- Blocks that hold no octets stay, but for the variable's. -/
def Kp5 (b : Nat) (w w' : World) : Prop := ∀ k, k < w.heap.size → k ≠ b → (∀ cur, w.heap[k]? ≠ some (.cells cur 5 (0, 0))) → w'.heap[k]? = w.heap[k]?
theorem Kp5.step {b base : Nat} {w w' w2 : World} {v : Value} {s : List UInt8} (h : Kp5 b w w') (ho : Own 5 base w' v s) (hO : Only (fun j => v.ownBlock = some j) w' w2) (hs : w.heap.size ≤ w'.heap.size) : Kp5 b w w2 := by
  intro k hk hb hc
  have h1 := h k hk hb hc
  refine (hO.block k (by omega) fun e => ?_).trans h1
  rcases ho.2 with ⟨rfl, _⟩ | ⟨g, cap, cur, rfl, _, hg, _⟩
  · simp [Value.ownBlock] at e
  · have : g = k := by simpa [Value.ownBlock] using e
    subst this
    rw [h1] at hg
    exact hc cur hg
/-- What the writing of one tag comes to. -/
def OneP (base b : Nat) (w : World) (out : List UInt8) (e : Ending) (w' : World) : Prop := e = .returned (.tuple #[]) ∧ Only (fun j => base ≤ j) w w' ∧ Kp5 b w w' ∧ ∃ dv', BB b w' dv' ∧ Own 5 base w' dv' out
theorem info_u8e : (Tryz.prog.info? 5).map (fun i => (i.zero, i.size, i.bytes)) = some (some (.int .u8 0), 1, 1) := by kernel_rfl

theorem own_sl {U base : Nat} {w : World} {v : Value} {s : List UInt8} (h : Own U base w v s) : ∃ A n c, v = .slice A n c := by
  rcases h.2 with ⟨rfl, _⟩ | ⟨g, cap, cur, rfl, _⟩
  · exact ⟨_, _, _, rfl⟩
  · exact ⟨_, _, _, rfl⟩
/-- The octets' variable holds v; the octets are these; what is to be written lies where it lay. -/
def Bx (base b D : Nat) (nn : Bool) (x : Value) (s : List UInt8) (w w' : World) (u v : Value) (out : List UInt8) : Prop := Own 5 base w' v out ∧ Only (fun j => base ≤ j) w w' ∧ BB b w' u ∧ Sp w' D nn x s ∧ Kp5 b w w'
theorem Bx.store {base b D : Nat} {nn : Bool} {x u v : Value} {s out : List UInt8} {w w' : World} (h : Bx base b D nn x s w w' u v out) (hbb : base ≤ b) (hD : D < base) : Bx base b D nn x s w (w'.setCell ⟨b, 0, none⟩ v) v v out := by
  obtain ⟨h1, h2, h3, h4, h5⟩ := h
  exact ⟨ownsRow_setCell_other h1 (row_ne_box (b := b) (t := 22) h1 h3 (by decide)) v, only_setAt h2 hbb _ _, one_setCell h3, h4.keep (heap_setCell_other _ _ D v (by show D ≠ b; omega)), fun k hk hb hc => (heap_setCell_other _ _ k v hb).trans (h5 k hk hb hc)⟩
theorem Bx.cell {base b D : Nat} {nn : Bool} {x u v : Value} {s out : List UInt8} {w w' : World} (h : Bx base b D nn x s w w' u v out) : w'.cell? ⟨b, 0, none⟩ = some u ∧ w'.frozen? ⟨b, 0, none⟩ = false := ⟨cell_of_one h.2.2.1, free_of_one h.2.2.1⟩
theorem Bx.uv {base b D k : Nat} {nn : Bool} {x v : Value} {s out : List UInt8} {w w' : World} (h : Bx base b D nn x s w w' v v out) (hbb : base ≤ b) (hD : D < base) (hbl : b < w.heap.size) (hk : k < 4294967296) (hl : out.length + 10 ≤ lim2) :
    Calls Tryz.prog 43 #[v, .int .u32 k] w' fun e w2 => ∃ A n c, e = .returned (.slice A n c) ∧ Bx base b D nn x s w w2 v (.slice A n c) (out ++ uvEnc k) := by
  obtain ⟨h1, h2, h3, h4, h5⟩ := h
  have hsz := h2.size
  refine (app_uvx base w' v out k h1 hk (by omega) hl).mono fun e w2 ⟨v2, he, k1, k2⟩ => ?_
  obtain ⟨A, n, c, rfl⟩ := own_sl k1
  exact ⟨A, n, c, he, k1, h2.trans (k2.mono fun j _ hj => (World.ownsRow.lt h1 j hj).1), (k2.block b (lt_of_block h3) (row_ne_box (b := b) (t := 22) h1 h3 (by decide))).trans h3, h4.keep (k2.block D (by omega) (by intro e; have := (World.ownsRow.lt h1 D e).1; omega)), h5.step h1 k2 hsz⟩

set_option maxRecDepth 100000 in
theorem tags_one {D base b k : Nat} {w : World} {nn : Bool} {s ds : List UInt8} {val dv : Value} (hs : Sp w D nn val s) (hb : BB b w dv) (ho : Own 5 base w dv ds) (hk : k < 4294967296) (hl : s.length < 4294967296) (hbb : base ≤ b) (hD : D < base)
    (hlim : ds.length + (uvEnc k ++ (uvEnc s.length ++ s)).length + 16 ≤ lim2) : Calls Tryz.prog 79 #[.int .u32 k, val, .pointer (some ⟨b, 0, none⟩)] w (OneP base b w (ds ++ (uvEnc k ++ (uvEnc s.length ++ s)))) := by
  obtain ⟨i0, hi, hz0, hz1, hz2⟩ := info_parts info_u8e
  have hlt : b < w.heap.size := lt_of_block hb
  simp only [List.length_append] at hlim
  have c0 : w.cell? ⟨b, 0, none⟩ = some dv := cell_of_one hb
  have HB0 : Hid (Bx base b D nn val s w w dv dv ds) := Lib.hid ⟨ho, Only.refl _ _, hb, hs, fun _ _ _ _ => rfl⟩
  obtain ⟨A, c, hval, _⟩ := hs.len
  have hwl : IntKind.u32.wrap ((s.length : Nat) : Int) = (s.length : Nat) := by rw [IntKind.wrap_u32]; omega
  have cA := Lib.hid (HB0.out.uv hbb hD hlt hk (by omega))
  have cB := Lib.hid (fun (w1 : World) (v1 : Value) (h : Bx base b D nn val s w w1 v1 v1 (ds ++ uvEnc k)) => h.uv hbb hD hlt hl (by simp only [List.length_append]; omega))
  have HL : Hid (((ds ++ uvEnc k) ++ uvEnc s.length).length + s.length ≤ lim2) := Lib.hid (by simp only [List.length_append]; omega)
  have HBB := Lib.hid hbb
  have HD := Lib.hid hD
  have HLT := Lib.hid hlt
  have hout : ds ++ (uvEnc k ++ (uvEnc s.length ++ s)) = ((ds ++ uvEnc k) ++ uvEnc s.length) ++ s := by simp
  rw [hout]
  clear hs hb ho hlim hout
  have HS : Hid (s.length = s.length) := Lib.hid rfl
  subst hval
  generalize hgn : s.length = ln at *
  generalize hgu : uvEnc ln = eu at *
  generalize hgk : uvEnc k = ek at *
  clear hgu hgk
  go_enter Tryz.func79, Tryz.ntmps79
  go_wp2_with (first
    | (go_at_call 43; refine cA.out.mono ?_; rintro e1 w1 ⟨A1, n1, c1, rfl, h1⟩; have f1 := h1.cell; have H1 := Lib.hid (h1.store HBB.out HD.out); clear h1 cA; obtain ⟨f1, g1⟩ := f1)
    | (go_at_call 43; refine (cB.out _ _ H1.out).mono ?_; rintro e2 w2 ⟨A2, n2, c2, rfl, h2⟩; have f2 := h2.cell; have H2 := Lib.hid (h2.store HBB.out HD.out); clear h2 cB; obtain ⟨f2, g2⟩ := f2)
    | (at_builtin; refine wp_app_spx rfl (.tmp 13) (.tmp 14) 22 rfl Tryz.underlying22 hi hz0 hz1 hz2 rfl H2.out.1 rfl H2.out.2.2.2.1 ?_ ?_ ?_; (have h7 := H2.out.2.1.size; have h8 := HBB.out; have h9 := HLT.out; omega); (have h7 := HL.out; rw [hgn]; omega); intro v3 w3 ho3 hw3; have HO3 := Lib.hid ho3; have HW3 := Lib.hid hw3; obtain ⟨A3, n3, c3, e3⟩ := own_sl ho3; subst e3; have f3 := (World.cell?_of_block (w := w2.setCell ⟨b, 0, none⟩ (.slice A2 n2 c2)) (hw3.block b (lt_of_block H2.out.2.2.1) (row_ne_box (b := b) (t := 22) H2.out.1 H2.out.2.2.1 (by decide)))).trans (H2.out.cell).1; have B3 := Lib.hid ((hw3.block b (lt_of_block H2.out.2.2.1) (row_ne_box (b := b) (t := 22) H2.out.1 H2.out.2.2.1 (by decide))).trans H2.out.2.2.1); have g3 := free_of_one B3.out; clear ho3 hw3)
    | fail)
  go_end0
  have h3 : Bx base b D nn (.slice A s.length c) s w w3 (.slice A2 n2 c2) (.slice A3 n3 c3) (ds ++ ek ++ eu ++ s) := by
    refine ⟨HO3.out, H2.out.2.1.trans (HW3.out.mono fun j _ hj => (World.ownsRow.lt H2.out.1 j hj).1), B3.out, ?_, H2.out.2.2.2.2.step H2.out.1 HW3.out H2.out.2.1.size⟩
    rw [hgn]
    have h1 := HD.out
    exact H2.out.2.2.2.1.keep (HW3.out.block D (by have := H2.out.2.1.size; have := HBB.out; have := HLT.out; omega) (by intro e; have := (World.ownsRow.lt H2.out.1 D e).1; omega))
  have h4 := h3.store HBB.out HD.out
  exact ⟨rfl, h4.2.1, h4.2.2.2.2, _, h4.2.2.1, h4.1⟩
end Go.Proofs.YtpefipjgcpchaaaGreatDoorR.Kf
