/- The reference: what a new part says (spec.Default), parts that lie in it too. -/
import Derived.Test.YthlfepgcjomhpaaSpH
import Derived.Maps.AppendAt
namespace Go.Proofs.Ythlfepgcjomhpaa.Kf
set_option linter.unusedVariables false
set_option linter.unusedSimpArgs false
open Go Go.RowKit

def dT : Nat → Fld → Tr
  | 0, f => .mk f.df [] (decide (0 ≤ f.nu)) [] []
  | d + 1, f => .mk f.df [] (decide (0 ≤ f.nu)) (if f.kind = 10 then f.sub.map (dT d) else []) []
def dL : Nat → Fld → List Tr
  | 0, _ => []
  | d + 1, f => if f.kind = 10 then f.sub.map (dT d) else []
theorem dT_eq (d : Nat) (f : Fld) : dT d f = .mk f.df [] (decide (0 ≤ f.nu)) (dL d f) [] := by cases d <;> rfl
def dR (d : Nat) (fs : List Fld) : Tr := .mk 0 [] false (fs.map (dT d)) []
def dOk : Nat → Fld → Bool
  | 0, f => decide (-9223372036854775808 ≤ f.df ∧ f.df < 9223372036854775808) && decide (f.kind ≠ 10)
  | d + 1, f => decide (-9223372036854775808 ≤ f.df ∧ f.df < 9223372036854775808) && (if f.kind = 10 then decide (f.sub.length ≤ 65536) && f.sub.all (dOk d) else true)
theorem dOk_df {d : Nat} {f : Fld} (h : dOk d f = true) : -9223372036854775808 ≤ f.df ∧ f.df < 9223372036854775808 := by
  cases d <;> (simp only [dOk, Bool.and_eq_true, decide_eq_true_eq] at h; exact h.1)
theorem dOk_sub {d : Nat} {f : Fld} (h : dOk d f = true) (hk : f.kind = 10) : ∃ d', d = d' + 1 ∧ f.sub.length ≤ 65536 ∧ f.sub.all (dOk d') = true := by
  cases d with
  | zero => simp [dOk, hk] at h
  | succ d => simp only [dOk, hk, if_true, Bool.and_eq_true, decide_eq_true_eq] at h; exact ⟨d, rfl, h.2.1, h.2.2⟩

/-- Blocks from lo on and below hi are as they were. -/
def Agr (lo hi : Nat) (w w' : World) : Prop := ∀ k, lo ≤ k → k < hi → w'.heap[k]? = w.heap[k]?
def rowV (f : Fld) (x : Value) : List Value := [.int .i64 f.df, .slice none 0 0, .bool (decide (0 ≤ f.nu)), x, .slice none 0 0]
theorem TrsC.more {w : World} {B B' : Nat} (hB : B ≤ B') {l : List Tr} {v : Value} (h : TrsC w B l v) : TrsC w B' l v := let ⟨f, a, b⟩ := h; ⟨f, a.more hB, fun j t ht => (b j t ht).more hB⟩
theorem TrsC.nil (w : World) (B : Nat) : TrsC w B [] (.slice none 0 0) := ⟨fun _ => [], .inl ⟨rfl, rfl⟩, fun j t h => by simp at h⟩

/-- A thing's cells, and what its parts lead to. -/
def Ent (d : Nat) (base : Nat) (w : World) (v : Value) (f : Fld) (cs : List Value) (j : Nat) : Prop :=
  ∃ x lo hi, (∀ i u, (rowV f x)[i]? = some u → cs[j * 5 + i]? = some u) ∧ base ≤ lo ∧ lo ≤ hi ∧ hi ≤ w.heap.size ∧ (∀ g, v.ownBlock = some g → g < lo ∨ hi ≤ g) ∧ ∀ w', Agr lo hi w w' → TrsC w' hi (dL d f) x
structure RowI (d : Nat) (fs : List Fld) (base : Nat) (w : World) (v : Value) (k : Nat) (cs : List Value) : Prop where
  own : w.ownsRow base 48 5 v k cs
  each : ∀ j f, j < k → fs[j]? = some f → Ent d base w v f cs j

theorem rowV_take {f : Fld} {x : Value} {cs : List Value} {o : Nat} (h : ∀ i u, (rowV f x)[i]? = some u → cs[o + i]? = some u) : (cs.drop o).take 5 = rowV f x := by
  refine List.ext_getElem? fun i => ?_
  rw [List.getElem?_take]
  by_cases hi : i < 5
  · rw [if_pos hi, List.getElem?_drop]
    have hl : i < (rowV f x).length := hi
    rw [List.getElem?_eq_getElem hl]
    exact h i _ (List.getElem?_eq_getElem hl)
  · rw [if_neg hi]
    exact (List.getElem?_eq_none (show (rowV f x).length ≤ i by show 5 ≤ i; omega)).symm

/-- What spec.Default comes to. -/
def DefQ (d : Nat) (fs : List Fld) (w : World) (e : Ending) (w' : World) : Prop := ∃ A n c, e = .returned (.agg #[.int .i64 0, .slice none 0 0, .bool false, .slice A n c, .slice none 0 0]) ∧
  (∀ w'', Agr w.heap.size w'.heap.size w' w'' → TrC w'' w'.heap.size (dR d fs) [.int .i64 0, .slice none 0 0, .bool false, .slice A n c, .slice none 0 0]) ∧ Only (fun _ => False) w w'
theorem DefQ.sub {d : Nat} {fs : List Fld} {w w' : World} {A : Option Addr} {n c : Nat} (h : ∀ w'', Agr w.heap.size w'.heap.size w' w'' → TrC w'' w'.heap.size (dR d fs) [.int .i64 0, .slice none 0 0, .bool false, .slice A n c, .slice none 0 0]) :
    ∀ w'', Agr w.heap.size w'.heap.size w' w'' → TrsC w'' w'.heap.size (fs.map (dT d)) (.slice A n c) := by
  intro w'' hw
  have := h w'' hw
  cases this with
  | mk fl fu h0 h1 hs hl hL hu hU => exact ⟨fl, hl, hL⟩

theorem row_trC {d : Nat} {fs : List Fld} {base : Nat} {w : World} {v : Value} {cs : List Value} (h : RowI d fs base w v fs.length cs) (hr : fs.all (dOk d) = true) : ∀ w', Agr base w.heap.size w w' → TrC w' w.heap.size (dR d fs) [.int .i64 0, .slice none 0 0, .bool false, v, .slice none 0 0] := by
  intro w' hw
  have hl : (fs.map (dT d)).length = fs.length := by simp
  have hlt := World.ownsRow.lt h.own
  have hc : ∀ g, v.ownBlock = some g → ∀ j u, cs[j]? = some u → w.cell? ((⟨g, 0, none⟩ : Addr).add j) = some u := fun g hg => World.ownsRow.cells h.own hg
  refine .mk (fun j => (cs.drop (j * 5)).take 5) (fun _ => []) (by decide) (by decide) (Oc.nil _ _) ?_ ?_ (.inl ⟨rfl, rfl⟩) (by simp)
  · rcases h.own.2 with ⟨rfl, hn⟩ | ⟨g, cap, cur, rfl, hbg, hg, hn, _⟩
    · exact .inl ⟨rfl, by rw [hl]; exact hn⟩
    · refine .inr ⟨_, cap, by rw [hl], by rw [hl]; exact hn, fun j hj => ?_⟩
      rw [hl] at hj
      obtain ⟨x, lo, hi, h1, _⟩ := h.each j _ hj (List.getElem?_eq_getElem hj)
      refine ⟨(hlt g rfl).2, by show ((cs.drop (j * 5)).take 5).length = 5; rw [rowV_take h1]; rfl, fun k u hk => ?_⟩
      have hk : ((cs.drop (j * 5)).take 5)[k]? = some u := hk
      rw [rowV_take h1] at hk
      have := hc g rfl _ _ (h1 k u hk)
      rw [add_add]
      rw [Addr.add_lit] at this ⊢
      exact (World.cell?_of_block (w := w) (hw g (hlt g rfl).1 (hlt g rfl).2)).trans this
  · intro j t hj
    rw [List.getElem?_map] at hj
    cases hf : fs[j]? with
    | none => rw [hf] at hj; cases hj
    | some f =>
      rw [hf] at hj
      simp at hj; subst hj
      have hjl : j < fs.length := (List.getElem?_eq_some_iff.1 hf).1
      obtain ⟨x, lo, hi, h1, h2, h3, h4, h5, h6⟩ := h.each j f hjl hf
      obtain ⟨fl, hs, hT⟩ := (h6 w' fun k a b => hw k (by omega) (by omega)).more h4
      have := dOk_df (List.all_eq_true.1 hr f (List.mem_of_getElem? hf))
      show TrC w' w.heap.size (dT d f) ((cs.drop (j * 5)).take 5)
      rw [rowV_take h1, dT_eq]
      exact .mk fl (fun _ => []) this.1 this.2 (Oc.nil _ _) hs hT (.inl ⟨rfl, rfl⟩) (by simp)

/-- One thing more. -/
theorem RowI.push {d : Nat} {fs : List Fld} {base : Nat} {w0 w w5 w6 : World} {v v5 : Value} {k : Nat} {cs : List Value} {f : Fld} {x : Value} {lo hi : Nat} (h : RowI d fs base w0 v k cs) (hf : fs[k]? = some f) (hb : base ≤ w0.heap.size)
    (h0 : Agr base w0.heap.size w0 w) (hs : w0.heap.size ≤ w.heap.size) (hlo : base ≤ lo) (hlh : lo ≤ hi) (hhi : hi ≤ w.heap.size) (hxg : ∀ g, v.ownBlock = some g → g < lo ∨ hi ≤ g) (hx : ∀ w', Agr lo hi w w' → TrsC w' hi (dL d f) x)
    (ho : w5.ownsRow base 48 5 v5 (k + 1) (cs ++ rowV f x)) (hg : w.grownBy w5 v.ownBlock) (hat : v5.ownBlock = v.ownBlock ∨ v5.ownBlock = some w.heap.size) (h6 : Agr base w5.heap.size w5 w6) (hs6 : w5.heap.size ≤ w6.heap.size) (hrow : w6.ownsRow base 48 5 v5 (k + 1) (cs ++ rowV f x)) : RowI d fs base w6 v5 (k + 1) (cs ++ rowV f x) := by
  have hcl : cs.length = k * 5 := h.own.1
  have hgs := hg.size
  -- what lies in a thing's own blocks stays
  have hk : ∀ lo hi, base ≤ lo → hi ≤ w.heap.size → (∀ g, v.ownBlock = some g → g < lo ∨ hi ≤ g) → Agr lo hi w w6 := by
    intro lo hi h1 h2 h3 j a b
    rw [h6 j (by omega) (by omega)]
    refine hg.block j (by omega) fun e => ?_
    have := h3 j e.symm
    omega
  have hown : ∀ lo hi, hi ≤ w.heap.size → (∀ g, v.ownBlock = some g → g < lo ∨ hi ≤ g) → ∀ g, v5.ownBlock = some g → g < lo ∨ hi ≤ g := by
    intro lo hi h2 h3 g hg
    rcases hat with e | e
    · exact h3 g (e ▸ hg)
    · rw [hg] at e; injection e with e; omega
  refine ⟨hrow, fun j f' hj hf' => ?_⟩
  by_cases hjk : j = k
  · subst hjk
    rw [hf] at hf'
    injection hf' with hf'
    subst hf'
    refine ⟨x, lo, hi, fun i u hu => ?_, hlo, hlh, by omega, hown lo hi hhi hxg, fun w' hw => hx w' fun q a b => (hw q a b).trans (hk lo hi hlo hhi hxg q a b)⟩
    rw [List.getElem?_append_right (by omega), hcl, Nat.add_sub_cancel_left]
    exact hu
  · obtain ⟨y, lo', hi', e1, e2, e3, e4, e5, e6⟩ := h.each j f' (by omega) hf'
    refine ⟨y, lo', hi', fun i u hu => ?_, e2, e3, by omega, hown lo' hi' (by omega) e5, fun w' hw => e6 w' fun q a b => (hw q a b).trans ((hk lo' hi' e2 (by omega) e5 q a b).trans (h0 q (by omega) (by omega)))⟩
    have := e1 i u hu
    rw [List.getElem?_append_left (by have := (List.getElem?_eq_some_iff.1 this).1; omega)]
    exact this

/-- Where the loop of Default stands. -/
def DefR (d : Nat) (fs : List Fld) (w : World) (i : Value) (wr : World) : Prop :=
  ∃ k : Nat, ∃ v : Value, ∃ cs : List Value, k ≤ fs.length ∧ i = .int .i64 k ∧ RowI d fs (w.heap.size + 2) wr v k cs ∧ Only (fun _ => False) w wr ∧ DB w.heap.size wr (.int .i64 0) (.slice none 0 0) (.bool false) (.slice none 0 0) (.slice none 0 0) 48 ∧ DB (w.heap.size + 1) wr (.int .i64 0) (.slice none 0 0) (.bool false) v (.slice none 0 0) 48
theorem DB.only {b T : Nat} {w w' : World} {x0 x1 x2 x3 x4 : Value} (h : DB b w x0 x1 x2 x3 x4 T) (ho : Only (fun _ => False) w w') : DB b w' x0 x1 x2 x3 x4 T := h.keep (ho.block _ h.lt id)
theorem db_new (w : World) (a : Obj) (x0 x1 x2 x3 x4 : Value) (T : Nat) : DB (w.heap.size + 1) ((w.alloc a).alloc (.cells #[x0, x1, x2, x3, x4] T)) x0 x1 x2 x3 x4 T := new2 _ _ _
theorem agr_only {lo hi : Nat} {w w' : World} (h : Only (fun _ => False) w w') (hh : hi ≤ w.heap.size) : Agr lo hi w w' := fun k a b => h.block k (by omega) id
/-- One thing more, and the variable is set. -/
theorem RowI.push2 {d : Nat} {fs : List Fld} {w wr W w5 : World} {v v5 : Value} {k : Nat} {cs : List Value} {f : Fld} {x : Value} {lo hi : Nat} (h : RowI d fs (w.heap.size + 2) wr v k cs) (hf : fs[k]? = some f) (hb : w.heap.size + 2 ≤ wr.heap.size)
    (h0 : Agr (w.heap.size + 2) wr.heap.size wr W) (hs : wr.heap.size ≤ W.heap.size) (hlo : w.heap.size + 2 ≤ lo) (hlh : lo ≤ hi) (hhi : hi ≤ W.heap.size) (hxg : ∀ g, v.ownBlock = some g → g < lo ∨ hi ≤ g) (hx : ∀ w', Agr lo hi W w' → TrsC w' hi (dL d f) x)
    (ho : w5.ownsRow (w.heap.size + 2) 48 5 v5 (k + 1) (cs ++ rowV f x)) (hg : W.grownBy w5 v.ownBlock) (hat : v5.ownBlock = v.ownBlock ∨ v5.ownBlock = some W.heap.size) :
    RowI d fs (w.heap.size + 2) (w5.setCell ⟨w.heap.size + 1, 3, none⟩ v5) v5 (k + 1) (cs ++ rowV f x) :=
  h.push hf hb h0 hs hlo hlh hhi hxg hx ho hg hat (fun j a _ => heap_setCell_other _ _ j v5 (by show j ≠ w.heap.size + 1; omega)) (by simp) (row_blocks ho fun g hg => heap_setCell_other _ _ _ _ (by show g ≠ w.heap.size + 1; omega))
theorem owns_at {w w' : World} {base e size n : Nat} {v : Value} {xs : List Value} (h : w.ownsRow base e size v n xs) (hk : ∀ g, v.ownBlock = some g → w'.heap[g]? = w.heap[g]?) : w'.ownsRow base e size v n xs := by
  refine ⟨h.1, ?_⟩
  rcases h.2 with h | ⟨g, cap, cur, rfl, hg, hh, r⟩
  · exact .inl h
  · exact .inr ⟨g, cap, cur, rfl, hg, (hk g rfl).trans hh, r⟩
theorem defaults_keepW {w wr W w5 : World} {T : Nat} {v : Value} (hw : Only (fun _ => False) w wr) (h0 : DB w.heap.size wr (.int .i64 0) (.slice none 0 0) (.bool false) (.slice none 0 0) (.slice none 0 0) T) (h1 : DB (w.heap.size + 1) wr (.int .i64 0) (.slice none 0 0) (.bool false) v (.slice none 0 0) T)
    (O : Only (fun _ => False) wr W) (h5 : Only (fun j => w.heap.size + 2 ≤ j) W w5) : Dfl w w5 T v := by
  have hs := O.size
  have hl := h1.lt
  exact ⟨(hw.trans O).own h5 (by omega), h0.keep ((h5.block _ (by omega) (by omega)).trans (O.block _ (by omega) id)), h1.keep ((h5.block _ (by omega) (by omega)).trans (O.block _ (by omega) id))⟩
theorem onlyW {wr w3 : World} {a b c : Obj} (O : Only (fun _ => False) ((wr.alloc a).alloc b) w3) (v : Value) : Only (fun _ => False) wr ((w3.setCell ⟨wr.heap.size + 1, 3, none⟩ v).alloc c) :=
  (only_setc ((((Only.refl _ _).alloc _).alloc _ : Only (fun _ => False) wr _).trans O) _ _ _ (by omega)).alloc _
theorem ownW {wr w3 : World} {a b c : Obj} (O : Only (fun _ => False) ((wr.alloc a).alloc b) w3) (v' : Value) {base e size n : Nat} {v : Value} {xs : List Value} (h : wr.ownsRow base e size v n xs) : ((w3.setCell ⟨wr.heap.size + 1, 3, none⟩ v').alloc c).ownsRow base e size v n xs := owns_keep h (onlyW O v')
theorem newW (w3 : World) (a : Addr) (v : Value) (c : Obj) : ((w3.setCell a v).alloc c).heap[w3.heap.size]? = some c := by
  have := heap_alloc_new (w3.setCell a v) c
  simpa using this
theorem agrW {wr w3 : World} {a b c : Obj} (v : Value) : Agr ((wr.alloc a).alloc b).heap.size w3.heap.size w3 ((w3.setCell ⟨wr.heap.size + 1, 3, none⟩ v).alloc c) := by
  intro k h1 h2
  have e1 : ((wr.alloc a).alloc b).heap.size = wr.heap.size + 1 + 1 := by simp
  rw [heap_alloc_old _ _ (by simpa using h2)]
  exact heap_setCell_other _ _ k v (by show k ≠ wr.heap.size + 1; omega)
def SpD (d : Nat) : Prop := ∀ (w : World) (B : Nat) (fs : List Fld) (v : Value), B ≤ w.heap.size → FldsC w B fs v → fs.all (dOk d) = true → fs.length ≤ 65536 → Calls Try.prog 20 #[v] w (DefQ d fs w)
theorem FldC.sub {w : World} {B : Nat} {f : Fld} {a0 a1 a2 a3 a4 a5 a6 v : Value} (h : FldC w B f [a0, a1, a2, a3, a4, a5, a6, v]) : FldsC w B f.sub v := by
  cases h with
  | mk g hs hS => exact ⟨g, hs, hS⟩
theorem out_lt {w : World} {base e size n : Nat} {v : Value} {xs : List Value} (h : w.ownsRow base e size v n xs) {B : Nat} (hB : w.heap.size ≤ B) {hi : Nat} : ∀ g, v.ownBlock = some g → g < B ∨ hi ≤ g := fun g hg => .inl (Nat.lt_of_lt_of_le (World.ownsRow.lt h g hg).2 hB)
set_option maxHeartbeats 1000000 in
set_option maxRecDepth 100000 in
theorem sp_default_step (d : Nat) (ih : ∀ d', d = d' + 1 → SpD d') : SpD d := by
  intro w B fs v hB hF hr hn
  obtain ⟨i0, hi, hz0, hz1, hz2⟩ := info_tree
  obtain ⟨ff, hsl, _⟩ := id hF
  obtain ⟨A, c, rfl, _⟩ := hsl.sl
  have HB := Lib.hid hB
  have HF := Lib.hid hF
  have HR := Lib.hid hr
  have HN := Lib.hid hn
  have HI := Lib.hid ih
  clear hB hF hr hn hsl ih
  go_enter Try.func20, Try.ntmps20
  go_wp2_with fail
  go_loopw [9] (fun i wr => DefR d fs w i wr)
    (fun i _ => fs.length - (intOf i).toNat)
  case atStart =>
    refine ⟨0, .slice none 0 0, [], Nat.zero_le _, rfl, ⟨World.ownsRow_nil _ _ _ _, fun j f hj => by omega⟩, ((Only.refl _ _).alloc _).alloc _, ?_, ?_⟩
    · unfold DB; rw [heap_alloc_old (h := by simp), heap_alloc_new]
    · exact new2 _ _ _
  case round =>
    obtain ⟨k, v, cs, hk, rfl, hrow, honly, hb0, hb1⟩ := hrel
    have hown := hrow.own
    have HO := Lib.hid hown
    have HRW := Lib.hid hrow
    have HW := Lib.hid honly
    have HB0 := Lib.hid hb0
    have HB1 := Lib.hid hb1
    by_cases hlt : k < fs.length
    · obtain ⟨b, o, AF, nF, cF, rfl, _, hbB, hf, e0, e1, e2, e3, e4, e5, e6, e7⟩ := (HF.out.keep (HW.out.kept0 HB.out)).at_ hlt
      obtain ⟨A2, c2, hvs⟩ := owns_form hown
      subst hvs
      obtain ⟨x0, x1, x2, x3, x4⟩ := hb1.cell
      have xf := hb1.froz 3
      have hfk : fs[k]? = some fs[k] := List.getElem?_eq_getElem hlt
      have hok := List.all_eq_true.1 HR.out _ (List.getElem_mem hlt)
      generalize fs[k] = f at hf e0 e1 e2 e3 e4 e5 e6 e7 hfk hok
      have HSUB := Lib.hid hf.sub
      have HFK := Lib.hid hfk
      have HbB := Lib.hid hbB
      have hb' : b < wr.heap.size := by have := HB.out; have := HW.out.size; omega
      have hws : w.heap.size + 1 < wr.heap.size := hb1.lt
      have hlt' : (k : Int) < (fs.length : Int) := by omega
      have hw64 : wrap64 ((k : Int) + 1) = (k : Int) + 1 := by have := HN.out; unfold wrap64; omega
      have hws2 : w.heap.size < wr.heap.size := by omega
      have hws3 : w.heap.size + 1 ≤ wr.heap.size := by omega
      by_cases hkd : f.kind = 10
      · obtain ⟨d', hd', hsl, hsa⟩ := dOk_sub hok hkd
        have cI := Lib.hid (fun (w1 : World) (O : Only (fun _ => False) wr w1) => HI.out d' hd' w1 B f.sub (.slice AF nF cF) (Nat.le_trans (Nat.le_trans HB.out HW.out.size) O.size) (HSUB.out.keep (O.kept0 (Nat.le_trans HB.out HW.out.size))) hsa hsl)
        have hdl : dL d f = f.sub.map (dT d') := by subst hd'; simp only [dL, hkd, if_true]
        have HDL := Lib.hid hdl
        have hrv : ∀ x, rowV f x = [.int .i64 f.df, .slice none 0 0, .bool (decide (0 ≤ f.nu)), x, .slice none 0 0] := fun _ => rfl
        have HRV := Lib.hid hrv
        have hkt : ((f.kind : Int) == 10) = true := by rw [hkd]; rfl
        clear hown hrow honly hb0 hb1 hbB hk hf hfk hok hkd hsl hsa hdl hrv
        generalize f.kind = kind at *
        generalize f.fr = fr at *
        generalize f.to = to at *
        generalize f.nu = nu at *
        generalize f.df = df at *
        generalize f.of = of at *
        generalize f.tag = tag at *
        have hfl : ∀ (A : Option Addr) (n c : Nat) (w : World), (Instr.field 48 (.agg #[.int .i64 0, .slice none 0 0, .bool false, .slice A n c, .slice none 0 0]) 3).run Try.prog w = .ok (.slice A n c) w := fun A n c w => by kernel_rfl
        go_wp2_with (first | (go_at_call 20; refine (cI.out _ (((Only.refl _ _).alloc _).alloc _)).mono ?_; rintro e3 w3 ⟨A3, n3, c3, rfl, hT3, hO3⟩; have HT3 := Lib.hid hT3; have HO3 := Lib.hid hO3; have hd1 := HB1.out.only ((((Only.refl _ _).alloc _).alloc _ : Only (fun _ => False) wr _).trans hO3); have HD1 := Lib.hid hd1; have hdo := (db_new wr (.cells #[.int .i64 kind, .int .i64 fr, .int .i64 to, .int .i64 nu, .int .i64 tag, .int .i64 df, .int .i64 of, .slice AF nF cF] 74) (.int .i64 df) (.slice none 0 0) (.bool (decide (0 ≤ nu))) (.slice none 0 0) (.slice none 0 0) 48).only hO3; have HDO := Lib.hid hdo; obtain ⟨p0, p1, p2, p3, p4⟩ := hd1.cell; have pf := hd1.froz 3; obtain ⟨r0, r1, r2, r3, r4⟩ := hdo.cell; have rf := hdo.froz 3; have hs3 := hO3.size; clear hT3 hO3 hd1 hdo cI) | (at_builtin; refine wpList_append_own_at _ rfl _ _ 46 rfl (w.heap.size + 2) 48 i0 _ 5 88 Try.underlying46 hi hz0 hz1 hz2 rfl (by decide) (.slice A2 k c2) k cs rfl (ownW HO3.out _ HO.out) ⟨w3.heap.size, 0, none⟩ 1 1 [.int .i64 df, .slice none 0 0, .bool (decide (0 ≤ nu)), .slice A3 n3 c3, .slice none 0 0] rfl rfl ?_ ?_ ?_ ?_ ?_ ?_; (exact five_at (newW _ _ _ _)); (exact five_one _ _ _ _ _ rfl rfl rfl rfl rfl); (exact room1 (Nat.le_trans (Nat.le_of_lt hlt) HN.out)); (exact room2 (Nat.le_trans (Nat.le_of_lt hlt) HN.out)); (have := (onlyW (c := .cells #[] 0) HO3.out (.int .i64 0)).size; simp at this ⊢; omega); intro v5 w5 ho5 hg5 _ hat5; have HO5 := Lib.hid ho5; have HG5 := Lib.hid hg5; have HAT5 := Lib.hid hat5; have HW5 := Lib.hid (grown_only hg5 (ownW HO3.out _ HO.out)); obtain ⟨A5, c5, h5⟩ := owns_form ho5; subst h5; clear ho5 hg5 hat5; have HP5 := Lib.hid (defaults_keepW HW.out HB0.out HB1.out (onlyW HO3.out _) HW5.out); obtain ⟨q1, q2, q3⟩ := defaults_facts HP5.out))
        have hOW := onlyW (c := .cells #[.int .i64 df, .slice none 0 0, .bool (decide (0 ≤ nu)), .slice A3 n3 c3, .slice none 0 0] 48) HO3.out (.slice A3 n3 c3)
        have hsW := hOW.size
        have hs3' := HO3.out.size
        have hlo : (((wr.alloc (.cells #[.int .i64 kind, .int .i64 fr, .int .i64 to, .int .i64 nu, .int .i64 tag, .int .i64 df, .int .i64 of, .slice AF nF cF] 74)).alloc (.cells #[.int .i64 df, .slice none 0 0, .bool (decide (0 ≤ nu)), .slice none 0 0, .slice none 0 0] 48)).heap.size) = wr.heap.size + 1 + 1 := by simp
        have HFIN := Lib.hid (RowI.push2 (v5 := .slice A5 (k + 1) c5) (x := .slice A3 n3 c3) (lo := ((wr.alloc (.cells #[.int .i64 kind, .int .i64 fr, .int .i64 to, .int .i64 nu, .int .i64 tag, .int .i64 df, .int .i64 of, .slice AF nF cF] 74)).alloc (.cells #[.int .i64 df, .slice none 0 0, .bool (decide (0 ≤ nu)), .slice none 0 0, .slice none 0 0] 48)).heap.size) (hi := w3.heap.size) HRW.out HFK.out (by omega) (agr_only hOW (Nat.le_refl _)) hsW (by omega) hs3' (by simp) (out_lt HO.out (by omega))
          (fun w' hw' => by rw [HDL.out]; exact DefQ.sub HT3.out w' fun q a b => (hw' q a b).trans (agrW _ q a b)) (by rw [HRV.out]; exact HO5.out) HG5.out HAT5.out)
        rw [HRV.out] at HFIN
        have HSET := Lib.hid (defaults_set (v' := .slice A5 (k + 1) c5) HP5.out)
        go_roundw
        case rel => exact ⟨k + 1, .slice A5 (k + 1) c5, _, hlt, by rw [hw64]; rfl, HFIN.out, HSET.out⟩
        case measure => rw [hw64]; simp [intOf]; omega
      · have hdl : dL d f = [] := by cases d <;> simp [dL, hkd]
        have HDL := Lib.hid hdl
        have hrv : rowV f (.slice none 0 0) = [.int .i64 f.df, .slice none 0 0, .bool (decide (0 ≤ f.nu)), .slice none 0 0, .slice none 0 0] := rfl
        have HRV := Lib.hid hrv
        have hkt : ((f.kind : Int) == 10) = false := by rw [beq_eq_false_iff_ne]; intro e; exact hkd (by omega)
        clear hown hrow honly hb0 hb1 hbB hk hf hfk hok hkd hdl hrv
        generalize f.kind = kind at *
        generalize f.fr = fr at *
        generalize f.to = to at *
        generalize f.nu = nu at *
        generalize f.df = df at *
        generalize f.of = of at *
        generalize f.tag = tag at *
        go_wp2_with (at_builtin; refine wpList_append_own_at _ rfl _ _ 46 rfl (w.heap.size + 2) 48 i0 _ 5 88 Try.underlying46 hi hz0 hz1 hz2 rfl (by decide) (.slice A2 k c2) k cs rfl (owns_keep HO.out ((((Only.refl _ _).alloc _).alloc _).alloc _)) ⟨wr.heap.size + 1 + 1, 0, none⟩ 1 1 [.int .i64 df, .slice none 0 0, .bool (decide (0 ≤ nu)), .slice none 0 0, .slice none 0 0] rfl rfl ?_ ?_ ?_ ?_ ?_ ?_; (exact five_at (new3 _ _ _ _)); (exact five_one _ _ _ _ _ rfl rfl rfl rfl rfl); (exact room1 (Nat.le_trans (Nat.le_of_lt hlt) HN.out)); (exact room2 (Nat.le_trans (Nat.le_of_lt hlt) HN.out)); (exact room3 hws); intro v5 w5 ho5 hg5 _ hat5; have HO5 := Lib.hid ho5; have HG5 := Lib.hid hg5; have HAT5 := Lib.hid hat5; have HW5 := Lib.hid (grown_only hg5 (owns_keep HO.out ((((Only.refl _ _).alloc _).alloc _).alloc _))); obtain ⟨A5, c5, h5⟩ := owns_form ho5; subst h5; clear ho5 hg5 hat5; have HP5 := Lib.hid (defaults_keep HW.out HB0.out HB1.out HW5.out); obtain ⟨q1, q2, q3⟩ := defaults_facts HP5.out)
        have hT : ∀ w', Agr (w.heap.size + 2) (w.heap.size + 2) (((wr.alloc (.cells #[.int .i64 kind, .int .i64 fr, .int .i64 to, .int .i64 nu, .int .i64 tag, .int .i64 df, .int .i64 of, .slice AF nF cF] 74)).alloc (.cells #[.int .i64 df, .slice none 0 0, .bool (decide (0 ≤ nu)), .slice none 0 0, .slice none 0 0] 48)).alloc (.cells #[.int .i64 df, .slice none 0 0, .bool (decide (0 ≤ nu)), .slice none 0 0, .slice none 0 0] 48)) w' → TrsC w' (w.heap.size + 2) (dL d f) (.slice none 0 0) := fun w' _ => by rw [HDL.out]; exact TrsC.nil _ _
        have HFIN := Lib.hid (RowI.push2 (v5 := .slice A5 (k + 1) c5) (x := .slice none 0 0) (lo := w.heap.size + 2) (hi := w.heap.size + 2) HRW.out HFK.out (by omega) (agr_only ((((Only.refl _ _).alloc _).alloc _).alloc _) (Nat.le_refl _)) (by simp; omega) (Nat.le_refl _) (Nat.le_refl _) (by simp; omega) (fun g _ => by omega) hT (by rw [HRV.out]; exact HO5.out) HG5.out HAT5.out)
        rw [HRV.out] at HFIN
        have HSET := Lib.hid (defaults_set (v' := .slice A5 (k + 1) c5) HP5.out)
        go_roundw
        case rel => exact ⟨k + 1, .slice A5 (k + 1) c5, _, hlt, by rw [hw64]; rfl, HFIN.out, HSET.out⟩
        case measure => rw [hw64]; simp [intOf]; omega
    · have hk2 : k = fs.length := by omega
      subst hk2
      have hlt' : ¬ ((fs.length : Int) < (fs.length : Int)) := by omega
      obtain ⟨A2, c2, hvs⟩ := owns_form hown
      subst hvs
      obtain ⟨x0, x1, x2, x3, x4⟩ := hb1.cell
      obtain ⟨z0, z1, z2, z3, z4⟩ := hb0.cell
      have zf0 := hb0.froz 0
      have zf1 := hb0.froz 1
      have zf2 := hb0.froz 2
      have zf3 := hb0.froz 3
      have zf4 := hb0.froz 4
      have hge : w.heap.size + 2 ≤ wr.heap.size := hb1.lt
      have HGE := Lib.hid hge
      clear hown hrow honly hb0 hb1 hge
      go_wp2_with fail
      refine bodyPost_ret (results_cell_row rfl _ _ w.heap.size 48 _ (0, 0) _ rfl HB0.out.set5 Try.underlying48 rfl info_tree5) rfl ⟨A2, fs.length, c2, rfl, ?_, ?_⟩
      · have hT := row_trC HRW.out HR.out
        intro w'' hw''
        have hsz : (((((wr.setCell ⟨w.heap.size, 0, none⟩ (.int .i64 0)).setCell ⟨w.heap.size, 1, none⟩ (.slice none 0 0)).setCell ⟨w.heap.size, 2, none⟩ (.bool false)).setCell ⟨w.heap.size, 3, none⟩ (.slice A2 fs.length c2)).setCell ⟨w.heap.size, 4, none⟩ (.slice none 0 0)).heap.size = wr.heap.size := by simp
        rw [hsz] at hw'' ⊢
        refine hT w'' fun g a b => ?_
        rw [hw'' g (by omega) b]
        have hne : g ≠ w.heap.size := by omega
        rw [heap_setCell_other _ _ _ _ hne, heap_setCell_other _ _ _ _ hne, heap_setCell_other _ _ _ _ hne, heap_setCell_other _ _ _ _ hne, heap_setCell_other _ _ _ _ hne]
      · exact only_setc (only_setc (only_setc (only_setc (only_setc HW.out _ _ _ (Nat.le_refl _)) _ _ _ (Nat.le_refl _)) _ _ _ (Nat.le_refl _)) _ _ _ (Nat.le_refl _)) _ _ _ (Nat.le_refl _)
theorem sp_default2 : ∀ d : Nat, SpD d := by
  intro d
  induction d with
  | zero => exact sp_default_step 0 fun d' h => by cases h
  | succ d ih => exact sp_default_step (d + 1) fun d' h => by injection h with h; subst h; exact ih
/-- .. seen as that of parts alone. -/
def DefP2 (d : Nat) (fs : List Fld) (w : World) (e : Ending) (w' : World) : Prop := ∃ A n c, e = .returned (.agg #[.int .i64 0, .slice none 0 0, .bool false, .slice A n c, .slice none 0 0]) ∧ TrC w' w'.heap.size (dR d fs) [.int .i64 0, .slice none 0 0, .bool false, .slice A n c, .slice none 0 0] ∧ Only (fun _ => False) w w'
theorem sp_default3 (d : Nat) (w : World) (B : Nat) (fs : List Fld) (v : Value) (hB : B ≤ w.heap.size) (hF : FldsC w B fs v) (hr : fs.all (dOk d) = true) (hn : fs.length ≤ 65536) : Calls Try.prog 20 #[v] w (DefP2 d fs w) :=
  (sp_default2 d w B fs v hB hF hr hn).mono fun e w' ⟨A, n, c, h1, h2, h3⟩ => ⟨A, n, c, h1, h2 w' (fun _ _ _ => rfl), h3⟩
end Go.Proofs.Ythlfepgcjomhpaa.Kf
