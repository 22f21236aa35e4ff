/- The reference: what a new part says (spec.Default), where no part lies in it. -/
import Derived.Test.YthlfepgcjomhpaaPS
import Derived.Test.YthlfepgcjomhpaaLawA
import Derived.OwnWalk
import Derived.Handy
namespace Go.Proofs.Ythlfepgcjomhpaa.Kf
set_option linter.unusedVariables false
set_option linter.unusedSimpArgs false
open Go Go.RowKit

def dfltT (f : Fld) : Tr := .mk f.df [] (decide (0 ≤ f.nu)) [] []
def dfltR (fs : List Fld) : Tr := .mk 0 [] false (fs.map dfltT) []
def cellsT (f : Fld) : List Value := [.int .i64 f.df, .slice none 0 0, .bool (decide (0 ≤ f.nu)), .slice none 0 0, .slice none 0 0]
def dcells (fs : List Fld) : List Value := (fs.map cellsT).flatten
theorem dcells_len (fs : List Fld) : (dcells fs).length = fs.length * 5 := by
  induction fs with
  | nil => rfl
  | cons f fs ih => simp only [dcells, List.map_cons, List.flatten_cons, List.length_append, List.length_cons] at *; simp only [cellsT, List.length_cons, List.length_nil]; omega
theorem dcells_at : ∀ (fs : List Fld) (j : Nat) (f : Fld), fs[j]? = some f → ∀ k u, (cellsT f)[k]? = some u → (dcells fs)[j * 5 + k]? = some u := by
  intro fs
  induction fs with
  | nil => intro j f h; simp at h
  | cons g fs ih =>
    intro j f h k u hk
    have hk5 : k < 5 := by have := (List.getElem?_eq_some_iff.1 hk).1; simpa [cellsT] using this
    have e : dcells (g :: fs) = cellsT g ++ dcells fs := rfl
    have hg : (cellsT g).length = 5 := rfl
    rw [e]
    cases j with
    | zero =>
      simp at h; subst h
      rw [List.getElem?_append_left (by omega)]
      simpa using hk
    | succ j =>
      rw [List.getElem?_append_right (by omega), hg, show (j + 1) * 5 + k - 5 = j * 5 + k by omega]
      exact ih j f (by simpa using h) k u hk
def cellsAt (fs : List Fld) (j : Nat) : List Value := match fs[j]? with | some f => cellsT f | none => []
theorem cellsAt_eq {fs : List Fld} {j : Nat} {f : Fld} (h : fs[j]? = some f) : cellsAt fs j = cellsT f := by unfold cellsAt; rw [h]
theorem dflt_trC {w : World} {base U : Nat} {v : Value} {fs : List Fld} (h : w.ownsRow base U 5 v fs.length (dcells fs)) (hr : ∀ f ∈ fs, -9223372036854775808 ≤ f.df ∧ f.df < 9223372036854775808) : TrC w w.heap.size (dfltR fs) [.int .i64 0, .slice none 0 0, .bool false, v, .slice none 0 0] := by
  have hl : (fs.map dfltT).length = fs.length := by simp
  have hlt := World.ownsRow.lt h
  have hc : ∀ g, v.ownBlock = some g → ∀ j u, (dcells fs)[j]? = some u → w.cell? ((⟨g, 0, none⟩ : Addr).add j) = some u := fun g hg => World.ownsRow.cells h hg
  refine .mk (cellsAt fs) (fun _ => []) (by decide) (by decide) (Oc.nil _ _) ?_ ?_ (.inl ⟨rfl, rfl⟩) (by simp)
  · rcases h.2 with ⟨rfl, hn⟩ | ⟨g, cap, cur, rfl, hbg, hg, hn, _⟩
    · exact .inl ⟨rfl, by rw [hl]; exact hn⟩
    · refine .inr ⟨_, cap, by rw [hl], by rw [hl]; exact hn, fun j hj => ?_⟩
      rw [hl] at hj
      have hf : fs[j]? = some fs[j] := List.getElem?_eq_getElem hj
      refine ⟨(hlt g rfl).2, by rw [cellsAt_eq hf]; rfl, fun k u hk => ?_⟩
      rw [cellsAt_eq hf] at hk
      have := hc g rfl _ _ (dcells_at fs j _ hf k u hk)
      rw [add_add]; exact this
  · intro j t hj
    rw [List.getElem?_map] at hj
    cases hf : fs[j]? with
    | none => rw [hf] at hj; cases hj
    | some f =>
      rw [hf] at hj
      simp at hj; subst hj
      have := hr f (List.mem_of_getElem? hf)
      rw [cellsAt_eq hf]
      exact .mk (fun _ => []) (fun _ => []) this.1 this.2 (Oc.nil _ _) (.inl ⟨rfl, rfl⟩) (by simp) (.inl ⟨rfl, rfl⟩) (by simp)

/-- A tree's block. -/
def DB (b : Nat) (w : World) (x0 x1 x2 x3 x4 : Value) (T : Nat) : Prop := w.heap[b]? = some (.cells #[x0, x1, x2, x3, x4] T)
theorem DB.cell {b T : Nat} {w : World} {x0 x1 x2 x3 x4 : Value} (h : DB b w x0 x1 x2 x3 x4 T) : w.cell? ⟨b, 0, none⟩ = some x0 ∧ w.cell? ⟨b, 1, none⟩ = some x1 ∧ w.cell? ⟨b, 2, none⟩ = some x2 ∧ w.cell? ⟨b, 3, none⟩ = some x3 ∧ w.cell? ⟨b, 4, none⟩ = some x4 := by
  unfold DB at h
  refine ⟨?_, ?_, ?_, ?_, ?_⟩ <;> simp [World.cell?, h]
theorem DB.froz {b T : Nat} {w : World} {x0 x1 x2 x3 x4 : Value} (h : DB b w x0 x1 x2 x3 x4 T) : ∀ o, w.frozen? ⟨b, o, none⟩ = false := by
  unfold DB at h
  intro o; simp [World.frozen?, h]
theorem DB.lt {b T : Nat} {w : World} {x0 x1 x2 x3 x4 : Value} (h : DB b w x0 x1 x2 x3 x4 T) : b < w.heap.size := by
  unfold DB at h
  exact (Array.getElem?_eq_some_iff.1 h).1
theorem DB.set5 {b T : Nat} {w : World} {x0 x1 x2 x3 x4 y0 y1 y2 y3 y4 : Value} (h : DB b w x0 x1 x2 x3 x4 T) : DB b (((((w.setCell ⟨b, 0, none⟩ y0).setCell ⟨b, 1, none⟩ y1).setCell ⟨b, 2, none⟩ y2).setCell ⟨b, 3, none⟩ y3).setCell ⟨b, 4, none⟩ y4) y0 y1 y2 y3 y4 T := by
  have h0 := heap_setCell_same w b 0 _ T y0 h
  have h1 := heap_setCell_same _ b 1 _ T y1 h0
  have h2 := heap_setCell_same _ b 2 _ T y2 h1
  have h3 := heap_setCell_same _ b 3 _ T y3 h2
  exact heap_setCell_same _ b 4 _ T y4 h3
theorem DB.set3 {b T : Nat} {w : World} {x0 x1 x2 x3 x4 y3 : Value} (h : DB b w x0 x1 x2 x3 x4 T) : DB b (w.setCell ⟨b, 3, none⟩ y3) x0 x1 x2 y3 x4 T := heap_setCell_same w b 3 _ T y3 h
theorem DB.keep {b T : Nat} {w w' : World} {x0 x1 x2 x3 x4 : Value} (h : DB b w x0 x1 x2 x3 x4 T) (hk : w'.heap[b]? = w.heap[b]?) : DB b w' x0 x1 x2 x3 x4 T := by unfold DB at *; rw [hk]; exact h

theorem info_treem : (Try.prog.info? 48).map (fun i => (i.zero, i.size, i.bytes)) = some (some (.agg #[.int .i64 0, .slice none 0 0, .bool false, .slice none 0 0, .slice none 0 0]), 5, 88) := by kernel_rfl
theorem info_tree : ∃ i, Try.prog.info? 48 = some i ∧ i.zero = some (.agg #[.int .i64 0, .slice none 0 0, .bool false, .slice none 0 0, .slice none 0 0]) ∧ i.size = 5 ∧ i.bytes = 88 := info_parts info_treem

theorem owns_keep {w w' : World} {base e size n : Nat} {v : Value} {xs : List Value} (h : w.ownsRow base e size v n xs) (ho : Only (fun _ => False) w w') : w'.ownsRow base e size v n xs :=
  World.ownsRow.kept (row := none) h ⟨ho.os, ho.tape, ho.output, ho.size, fun k hk _ => ho.block k hk id⟩ (by cases hv : v.ownBlock <;> simp)
theorem grown_only {w w' : World} {base e size n : Nat} {v : Value} {xs : List Value} (hg : w.grownBy w' v.ownBlock) (h : w.ownsRow base e size v n xs) : Only (fun j => base ≤ j) w w' := by
  have hlt := World.ownsRow.lt h
  exact ⟨hg.os, hg.tape, hg.output, hg.size, fun k hk hS => hg.block k hk (fun e => hS (hlt k e.symm).1)⟩
theorem new3 (w : World) (a b c : Obj) : (((w.alloc a).alloc b).alloc c).heap[w.heap.size + 1 + 1]? = some c := by
  have := heap_alloc_new ((w.alloc a).alloc b) c
  simpa using this
/-- What spec.Default comes to. -/
def DefP (fs : List Fld) (w : World) (e : Ending) (w' : World) : Prop := ∃ A n c, e = .returned (.agg #[.int .i64 0, .slice none 0 0, .bool false, .slice A n c, .slice none 0 0]) ∧ TrC w' w'.heap.size (dfltR fs) [.int .i64 0, .slice none 0 0, .bool false, .slice A n c, .slice none 0 0] ∧ Only (fun _ => False) w w'
theorem five_at {w : World} {b T : Nat} {x0 x1 x2 x3 x4 : Value} (h : w.heap[b]? = some (.cells #[x0, x1, x2, x3, x4] T)) : ∀ j u, [x0, x1, x2, x3, x4][j]? = some u → w.cell? ((⟨b, 0, none⟩ : Addr).add j) = some u := by
  intro j u hj
  rw [Addr.add_lit]
  have : (#[x0, x1, x2, x3, x4] : Array Value)[0 + j]? = some u := by rw [Nat.zero_add, List.getElem?_toArray]; exact hj
  simp only [World.cell?, h]
  exact this
theorem row_blocks {w w' : World} {base e size n : Nat} {v : Value} {xs : List Value} (h : w.ownsRow base e size v n xs) (hk : ∀ g, base ≤ g → w'.heap[g]? = w.heap[g]?) : w'.ownsRow base e size v n xs := by
  have hlt := World.ownsRow.lt h
  refine ⟨h.1, ?_⟩
  rcases h.2 with h | ⟨g, cap, cur, rfl, hg, hh, r⟩
  · exact .inl h
  · exact .inr ⟨g, cap, cur, rfl, hg, (hk g (hlt g rfl).1).trans hh, r⟩
theorem only_setc {w w2 : World} (h : Only (fun _ => False) w w2) (b o : Nat) (v : Value) (hb : w.heap.size ≤ b) : Only (fun _ => False) w (w2.setCell ⟨b, o, none⟩ v) :=
  ⟨h.os, h.tape, h.output, by simpa using h.size, fun k hk _ => (heap_setCell_other _ _ _ _ (by show k ≠ b; omega)).trans (h.block k hk id)⟩
theorem info_tree5 : (Try.prog.info? 48).map (·.size) = some 5 := by kernel_rfl
theorem five_one (x0 x1 x2 x3 x4 : Value) (h0 : x0.oneCell' = true) (h1 : x1.oneCell' = true) (h2 : x2.oneCell' = true) (h3 : x3.oneCell' = true) (h4 : x4.oneCell' = true) : ∀ u ∈ [x0, x1, x2, x3, x4], u.oneCell' = true := by
  intro u hu
  simp at hu
  rcases hu with rfl | rfl | rfl | rfl | rfl <;> assumption
theorem room1 {k : Nat} (h : k ≤ 65536) : k + 1 ≤ maxLen := by unfold maxLen; omega
theorem room2 {k : Nat} (h : k ≤ 65536) : (k + 1) * 88 ≤ 140737488355328 := by omega
theorem room3 {w wr : World} {a b c : Obj} (h : w.heap.size + 1 < wr.heap.size) : w.heap.size + 2 ≤ (((wr.alloc a).alloc b).alloc c).heap.size := by simp; omega
theorem owns_form {w : World} {base e size n : Nat} {v : Value} {xs : List Value} (h : w.ownsRow base e size v n xs) : ∃ A c, v = .slice A n c := by
  rcases h.2 with ⟨h, h0⟩ | ⟨g, cap, cur, h, _⟩
  · exact ⟨none, 0, by rw [h, h0]⟩
  · exact ⟨_, _, h⟩
def Dfl (w w5 : World) (T : Nat) (v : Value) : Prop := Only (fun _ => False) w w5 ∧ DB w.heap.size w5 (.int .i64 0) (.slice none 0 0) (.bool false) (.slice none 0 0) (.slice none 0 0) T ∧ DB (w.heap.size + 1) w5 (.int .i64 0) (.slice none 0 0) (.bool false) v (.slice none 0 0) T
theorem defaults_keep {w wr w5 : World} {T : Nat} {v : Value} {a b c : Obj} (hw : Only (fun _ => False) w wr) (h0 : DB w.heap.size wr (.int .i64 0) (.slice none 0 0) (.bool false) (.slice none 0 0) (.slice none 0 0) T) (h1 : DB (w.heap.size + 1) wr (.int .i64 0) (.slice none 0 0) (.bool false) v (.slice none 0 0) T)
    (h5 : Only (fun j => w.heap.size + 2 ≤ j) (((wr.alloc a).alloc b).alloc c) w5) : Dfl w w5 T v := by
  have O3 : Only (fun _ => False) wr (((wr.alloc a).alloc b).alloc c) := (((Only.refl _ _).alloc _).alloc _).alloc _
  have hs := O3.size
  have hl := h1.lt
  refine ⟨(hw.trans O3).own h5 (by omega), h0.keep ((h5.block _ (by omega) (by omega)).trans (O3.block _ (by omega) id)), h1.keep ((h5.block _ (by omega) (by omega)).trans (O3.block _ (by omega) id))⟩
theorem defaults_facts {w w5 : World} {T : Nat} {v : Value} (h : Dfl w w5 T v) : w5.cell? ⟨w.heap.size + 1, 3, none⟩ = some v ∧ w5.frozen? ⟨w.heap.size + 1, 3, none⟩ = false ∧ w.heap.size + 1 < w5.heap.size := ⟨h.2.2.cell.2.2.2.1, h.2.2.froz 3, h.2.2.lt⟩
theorem defaults_set {w w5 : World} {T : Nat} {v v' : Value} (h : Dfl w w5 T v) : Dfl w (w5.setCell ⟨w.heap.size + 1, 3, none⟩ v') T v' := by
  obtain ⟨h1, h2, h3⟩ := h
  refine ⟨⟨h1.os, h1.tape, h1.output, by simpa using h1.size, fun k hk hS => (heap_setCell_other _ _ k v' (by simp; omega)).trans (h1.block k hk hS)⟩, h2.keep (heap_setCell_other _ _ _ v' (by simp)), h3.set3⟩
set_option maxHeartbeats 1000000 in
set_option maxRecDepth 100000 in
theorem sp_default (w : World) (B : Nat) (fs : List Fld) (v : Value) (hB : B ≤ w.heap.size) (hF : FldsC w B fs v) (hk : ∀ f ∈ fs, f.kind ≠ 10) (hr : ∀ f ∈ fs, -9223372036854775808 ≤ f.df ∧ f.df < 9223372036854775808) (hn : fs.length ≤ 65536) :
    Calls Try.prog 20 #[v] w (DefP fs w) := by
  obtain ⟨i0, hi, hz0, hz1, hz2⟩ := info_tree
  obtain ⟨ff, hsl, _⟩ := id hF
  obtain ⟨A, c, rfl, _⟩ := hsl.sl
  have HB := Lib.hid hB
  have HF := Lib.hid hF
  have HK := Lib.hid hk
  have HR := Lib.hid hr
  have HN := Lib.hid hn
  clear hB hF hk hr hn hsl
  go_enter Try.func20, Try.ntmps20
  go_wp2_with fail
  go_loopw [9] (fun i wr => ∃ k : Nat, ∃ v : Value, k ≤ fs.length ∧ i = .int .i64 k ∧ wr.ownsRow (w.heap.size + 2) 48 5 v k (dcells (fs.take k)) ∧ Only (fun _ => False) w wr ∧ DB w.heap.size wr (.int .i64 0) (.slice none 0 0) (.bool false) (.slice none 0 0) (.slice none 0 0) 48 ∧ DB (w.heap.size + 1) wr (.int .i64 0) (.slice none 0 0) (.bool false) v (.slice none 0 0) 48)
    (fun i _ => fs.length - (intOf i).toNat)
  case atStart =>
    refine ⟨0, .slice none 0 0, Nat.zero_le _, rfl, World.ownsRow_nil _ _ _ _, ((Only.refl _ _).alloc _).alloc _, ?_, ?_⟩
    · unfold DB; rw [heap_alloc_old (h := by simp), heap_alloc_new]
    · exact new2 _ _ _
  case round =>
    obtain ⟨k, v, hk, rfl, hown, honly, hb0, hb1⟩ := hrel
    have HO := Lib.hid hown
    have HW := Lib.hid honly
    have HB0 := Lib.hid hb0
    have HB1 := Lib.hid hb1
    by_cases hlt : k < fs.length
    · obtain ⟨b, o, AF, nF, cF, rfl, _, hbB, hf, e0, e1, e2, e3, e4, e5, e6, e7⟩ := (HF.out.keep (HW.out.kept0 HB.out)).at_ hlt
      obtain ⟨A2, c2, hvs⟩ : ∃ A2 c2, v = .slice A2 k c2 := by
        rcases hown.2 with ⟨h, h0⟩ | ⟨g, cap, cur, h, _⟩
        · exact ⟨none, 0, by rw [h, h0]⟩
        · exact ⟨_, _, h⟩
      subst hvs
      obtain ⟨x0, x1, x2, x3, x4⟩ := hb1.cell
      have xf := hb1.froz 3
      have hkd : fs[k].kind ≠ 10 := HK.out _ (List.getElem_mem hlt)
      have htk : dcells (fs.take (k + 1)) = dcells (fs.take k) ++ cellsT fs[k] := by
        rw [List.take_add_one, List.getElem?_eq_getElem hlt]
        simp only [Option.toList_some, dcells, List.map_append, List.flatten_append, List.map_cons, List.map_nil, List.flatten_cons, List.flatten_nil, List.append_nil]
      generalize fs[k] = f at hf e0 e1 e2 e3 e4 e5 e6 e7 hkd htk
      have HTk := Lib.hid htk
      have hkt : ((f.kind : Int) == 10) = false := by rw [beq_eq_false_iff_ne]; intro e; exact hkd (by omega)
      have hcT : cellsT f = [.int .i64 f.df, .slice none 0 0, .bool (decide (0 ≤ f.nu)), .slice none 0 0, .slice none 0 0] := rfl
      rw [hcT] at HTk
      clear htk hcT hf hkd
      generalize f.kind = kind at *
      generalize f.fr = fr at *
      generalize f.to = to at *
      generalize f.nu = nu at *
      generalize f.df = df at *
      generalize f.of = of at *
      generalize f.tag = tag at *
      have HbB := Lib.hid hbB
      have hb' : b < wr.heap.size := by have := HB.out; have := HW.out.size; omega
      have hws : w.heap.size + 1 < wr.heap.size := hb1.lt
      have hlt' : (k : Int) < (fs.length : Int) := by omega
      have hw64 : wrap64 ((k : Int) + 1) = (k : Int) + 1 := by have := HN.out; unfold wrap64; omega
      have hws2 : w.heap.size < wr.heap.size := by omega
      have hws3 : w.heap.size + 1 ≤ wr.heap.size := by omega
      clear hown honly hb0 hb1 hbB hk
      go_wp2_with (at_builtin; refine wpList_append_own _ rfl _ _ 46 rfl (w.heap.size + 2) 48 i0 _ 5 88 Try.underlying46 hi hz0 hz1 hz2 rfl (by decide) (.slice A2 k c2) k (dcells (fs.take k)) rfl (owns_keep HO.out ((((Only.refl _ _).alloc _).alloc _).alloc _)) ⟨wr.heap.size + 1 + 1, 0, none⟩ 1 1 [.int .i64 df, .slice none 0 0, .bool (decide (0 ≤ nu)), .slice none 0 0, .slice none 0 0] rfl rfl ?_ ?_ ?_ ?_ ?_ ?_; (exact five_at (new3 _ _ _ _)); (exact five_one _ _ _ _ _ rfl rfl rfl rfl rfl); (exact room1 (Nat.le_trans (Nat.le_of_lt hlt) HN.out)); (exact room2 (Nat.le_trans (Nat.le_of_lt hlt) HN.out)); (exact room3 hws); intro v5 w5 ho5 hg5 _; have HO5 := Lib.hid ho5; have HW5 := Lib.hid (grown_only hg5 (owns_keep HO.out ((((Only.refl _ _).alloc _).alloc _).alloc _))); obtain ⟨A5, c5, h5⟩ := owns_form ho5; subst h5; clear ho5 hg5; have HP5 := Lib.hid (defaults_keep HW.out HB0.out HB1.out HW5.out); obtain ⟨q1, q2, q3⟩ := defaults_facts HP5.out)
      have HFIN := Lib.hid (And.intro (row_blocks HO5.out (w' := w5.setCell ⟨w.heap.size + 1, 3, none⟩ (.slice A5 (k + 1) c5)) fun g hg => heap_setCell_other _ _ _ _ (by show g ≠ w.heap.size + 1; omega)) (defaults_set (v' := .slice A5 (k + 1) c5) HP5.out))
      go_roundw
      case rel => exact ⟨k + 1, .slice A5 (k + 1) c5, hlt, by rw [hw64]; rfl, by rw [HTk.out]; exact HFIN.out.1, HFIN.out.2⟩
      case measure => rw [hw64]; simp [intOf]; omega
    · have hk2 : k = fs.length := by omega
      subst hk2
      have hlt' : ¬ ((fs.length : Int) < (fs.length : Int)) := by omega
      obtain ⟨A2, c2, hvs⟩ : ∃ A2 c2, v = .slice A2 fs.length c2 := by
        rcases hown.2 with ⟨h, h0⟩ | ⟨g, cap, cur, h, _⟩
        · exact ⟨none, 0, by rw [h, h0]⟩
        · exact ⟨_, _, h⟩
      subst hvs
      obtain ⟨x0, x1, x2, x3, x4⟩ := hb1.cell
      obtain ⟨z0, z1, z2, z3, z4⟩ := hb0.cell
      have zf0 := hb0.froz 0
      have zf1 := hb0.froz 1
      have zf2 := hb0.froz 2
      have zf3 := hb0.froz 3
      have zf4 := hb0.froz 4
      clear hown honly hb0 hb1
      go_wp2_with fail
      have hfs : fs.take fs.length = fs := List.take_length
      have HROW := HO.out
      rw [hfs] at HROW
      refine bodyPost_ret (results_cell_row rfl _ _ w.heap.size 48 _ (0, 0) _ rfl HB0.out.set5 Try.underlying48 rfl info_tree5) rfl ⟨A2, fs.length, c2, rfl, dflt_trC (row_blocks HROW fun g hg => ?_) HR.out, ?_⟩
      · have hne : g ≠ w.heap.size := by omega
        rw [heap_setCell_other _ _ _ _ hne, heap_setCell_other _ _ _ _ hne, heap_setCell_other _ _ _ _ hne, heap_setCell_other _ _ _ _ hne, heap_setCell_other _ _ _ _ hne]
      · exact only_setc (only_setc (only_setc (only_setc (only_setc HW.out _ _ _ (Nat.le_refl _)) _ _ _ (Nat.le_refl _)) _ _ _ (Nat.le_refl _)) _ _ _ (Nat.le_refl _)) _ _ _ (Nat.le_refl _)
end Go.Proofs.Ythlfepgcjomhpaa.Kf
