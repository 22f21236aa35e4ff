/- The laws' plain part: what 'again' makes of what was written, and of anything. -/
import Derived.Test.YtpefipjgcpchaaaGreatDoorRAgA
namespace Go.Proofs.YtpefipjgcpchaaaGreatDoorR.Kf
set_option linter.unusedVariables false
set_option linter.unusedSimpArgs false
open Go Go.RowKit

/-! ### things that are kept -/
/-! ### what the laws see -/
def FullP (U : Nat) (bs : List UInt8) (w : World) (e : Ending) (w' : World) : Prop := ∃ A n c, e = .returned (.tuple #[.slice A n c, .bool true]) ∧ Only (fun _ => False) w w' ∧ Own U w.heap.size w' (.slice A n c) bs
def CutP (w : World) (e : Ending) (w' : World) : Prop := e = .returned (.tuple #[.slice none 0 0, .bool false]) ∧ Only (fun _ => False) w w'
theorem fullP_of {U : Nat} {bs : List UInt8} {w : World} {e : Ending} {w' : World} (h : ∃ v, e = .returned (.tuple #[v, .bool true]) ∧ Only (fun _ => False) w w' ∧ Own U w.heap.size w' v bs) : FullP U bs w e w' := by
  obtain ⟨v, rfl, ho, hown⟩ := h
  obtain ⟨A, c, rfl, _⟩ := hown.oc.sl
  exact ⟨A, _, c, rfl, ho, hown⟩
def OcP (out : List UInt8) (w : World) (e : Ending) (w' : World) : Prop := ∃ A n c, e = .returned (.slice A n c) ∧ Oc w' w'.heap.size (.slice A n c) out ∧ Only (fun _ => False) w w'
theorem ocP_of {U : Nat} {out : List UInt8} {w : World} {e : Ending} {w' : World} (h : SpP U w out e w') : OcP out w e w' := by
  obtain ⟨v, rfl, h, ho⟩ := h
  obtain ⟨A, c, rfl, _⟩ := h.oc.sl
  exact ⟨A, _, c, rfl, h.oc, ho⟩
/-- Octets that are there: a slice of just so many. -/
def OcN (out : List UInt8) (n : Nat) (w : World) (e : Ending) (w' : World) : Prop := ∃ a c, e = .returned (.slice (some a) n c) ∧ n ≤ c ∧ Oc w' w'.heap.size (.slice (some a) n c) out ∧ Only (fun _ => False) w w'
theorem ocN_of {U : Nat} {out : List UInt8} {n : Nat} {w : World} {e : Ending} {w' : World} (h : SpP U w out e w') (hn : out.length = n) (h0 : n ≠ 0) : OcN out n w e w' := by
  obtain ⟨v, rfl, h, ho⟩ := h
  subst hn
  have h' := h.oc
  rcases h' with ⟨_, rfl⟩ | ⟨a, c, rfl, hle, hc⟩
  · exact absurd rfl h0
  · exact ⟨a, c, rfl, hle, .inr ⟨a, c, rfl, hle, hc⟩, ho⟩
theorem Oc.take {w : World} {B n c k : Nat} {a : Addr} {s : List UInt8} (h : Oc w B (.slice (some a) n c) s) (hn : s.length = n) (hk : k ≤ n) : Oc w B (.slice (some a) k c) (s.take k) := by
  rcases h with ⟨h, _⟩ | ⟨a', c', e, hle, hc⟩
  · cases h
  · injection e with e1 e2 e3
    injection e1 with e1
    subst e1; subst e3
    have hl : (s.take k).length = k := by simp; omega
    refine .inr ⟨a, c, by rw [hl], by omega, fun j b hb => hc j b ?_⟩
    rw [List.getElem?_take] at hb
    split at hb
    · exact hb
    · cases hb

/-! ### the reference's own fields -/
/-- Fields, one behind the other. -/
inductive FldsL (w : World) (B : Nat) : List Fld → List Value → Prop
  | nil : FldsL w B [] []
  | leaf {kind of : Nat} {fr to nu tag df : Int} {fs : List Fld} {cs : List Value} (h : FldsL w B fs cs) : FldsL w B (.mk kind fr to nu tag df of [] :: fs) (.int .i64 kind :: .int .i64 fr :: .int .i64 to :: .int .i64 nu :: .int .i64 tag :: .int .i64 df :: .int .i64 of :: .slice none 0 0 :: cs)
  | node {kind of : Nat} {fr to nu tag df : Int} {sub fs : List Fld} {cs : List Value} {v : Value} (hs : FldsC w B sub v) (h : FldsL w B fs cs) : FldsL w B (.mk kind fr to nu tag df of sub :: fs) (.int .i64 kind :: .int .i64 fr :: .int .i64 to :: .int .i64 nu :: .int .i64 tag :: .int .i64 df :: .int .i64 of :: v :: cs)
theorem FldsL.at_ {w : World} {B : Nat} {fs : List Fld} {cs : List Value} (h : FldsL w B fs cs) : ∀ j x, fs[j]? = some x → ∃ c : List Value, FldC w B x c ∧ c.length = 8 ∧ ∀ k y, c[k]? = some y → cs[j * 8 + k]? = some y := by
  induction h with
  | nil => intro j x hj; simp at hj
  | @leaf kind of fr to nu tag df fs cs h ih =>
    intro j x hj
    match j, hj with
    | 0, hj =>
      simp at hj; subst hj
      refine ⟨_, .mk (fun _ => []) (.inl ⟨rfl, rfl⟩) (by simp), rfl, fun k y hy => ?_⟩
      match k, hy with
      | 0, hy | 1, hy | 2, hy | 3, hy | 4, hy | 5, hy | 6, hy | 7, hy => simpa using hy
      | k + 8, hy => simp at hy
    | j + 1, hj =>
      obtain ⟨c, h1, h2, h3⟩ := ih j x (by simpa using hj)
      refine ⟨c, h1, h2, fun k y hy => ?_⟩
      have := h3 k y hy
      rw [show (j + 1) * 8 + k = j * 8 + k + 8 by omega]
      simpa using this
  | @node kind of fr to nu tag df sub fs cs v hs h ih =>
    intro j x hj
    match j, hj with
    | 0, hj =>
      simp at hj; subst hj
      obtain ⟨f, h1, h2⟩ := hs
      refine ⟨_, .mk f h1 h2, rfl, fun k y hy => ?_⟩
      match k, hy with
      | 0, hy | 1, hy | 2, hy | 3, hy | 4, hy | 5, hy | 6, hy | 7, hy => simpa using hy
      | k + 8, hy => simp at hy
    | j + 1, hj =>
      obtain ⟨c, h1, h2, h3⟩ := ih j x (by simpa using hj)
      refine ⟨c, h1, h2, fun k y hy => ?_⟩
      have := h3 k y hy
      rw [show (j + 1) * 8 + k = j * 8 + k + 8 by omega]
      simpa using this
theorem flds_new {w : World} {B b t : Nat} {cs : Array Value} {fs : List Fld} (hb : w.heap[b]? = some (.cells cs t)) (hB : b < B) (h : FldsL w B fs cs.toList) : FldsC w B fs (.slice (some ⟨b, 0, none⟩) fs.length fs.length) := by
  have hx : ∀ j, ∃ c : List Value, ∀ x, fs[j]? = some x → FldC w B x c ∧ c.length = 8 ∧ ∀ k y, c[k]? = some y → cs[j * 8 + k]? = some y := by
    intro j
    cases hj : fs[j]? with
    | none => exact ⟨[], fun x h => by cases h⟩
    | some x =>
      obtain ⟨c, h1, h2, h3⟩ := h.at_ j x hj
      exact ⟨c, fun x' h => by injection h with h; subst h; exact ⟨h1, h2, fun k y hy => by simpa using h3 k y hy⟩⟩
  refine ⟨fun j => (hx j).choose, .inr ⟨_, _, rfl, Nat.le_refl _, fun j hj => ?_⟩, fun j x hj => ((hx j).choose_spec x hj).1⟩
  obtain ⟨_, h2, h3⟩ := (hx j).choose_spec _ (List.getElem?_eq_getElem hj)
  refine ⟨hB, h2, fun k y hy => ?_⟩
  have := h3 k y hy
  rw [add_add, Addr.add_lit]
  simp [World.cell?, hb, this]

theorem new2 (w : World) (o o' : Obj) : ((w.alloc o).alloc o').heap[w.heap.size + 1]? = some o' := by
  have := heap_alloc_new (w.alloc o) o'
  simpa using this
theorem box0 {w w' : World} {cs : Array Value} {t : Nat} (h : Only (fun _ => False) (w.alloc (.cells cs t)) w') (k : Nat) {v : Value} (hv : cs[k]? = some v) : w'.cell? ⟨w.heap.size, k, none⟩ = some v := by
  have := h.block w.heap.size (by simp) id
  rw [heap_alloc_new] at this
  simp [World.cell?, this, hv]
theorem box0f {w w' : World} {cs : Array Value} {t : Nat} (h : Only (fun _ => False) (w.alloc (.cells cs t)) w') (k : Nat) : w'.frozen? ⟨w.heap.size, k, none⟩ = false := by
  have := h.block w.heap.size (by simp) id
  rw [heap_alloc_new] at this
  simp [World.frozen?, this]

/-- Fields in blocks made between two worlds. -/
def FldsN (w0 w1 : World) (fs : List Fld) (v : Value) : Prop := ∀ W B, w1.heap.size ≤ B → (∀ k, w0.heap.size ≤ k → k < w1.heap.size → W.heap[k]? = w1.heap[k]?) → FldsC W B fs v
/-- What a function that makes fields comes to; one that makes a message. -/
def SubP (fs : List Fld) (w : World) (e : Ending) (w' : World) : Prop := ∃ A n c, e = .returned (.slice A n c) ∧ FldsN w w' fs (.slice A n c) ∧ Only (fun _ => False) w w'
def SpecP (fs : List Fld) (fx : Int) (w : World) (e : Ending) (w' : World) : Prop := ∃ A n c, e = .returned (.agg #[.slice A n c, .int .i64 fx]) ∧ FldsC w' w'.heap.size fs (.slice A n c) ∧ Only (fun _ => False) w w'

theorem FldsN.up {w w1 w2 : World} {fs : List Fld} {v : Value} (h : FldsN w w1 fs v) (O : Only (fun _ => False) w1 w2) : FldsN w w2 fs v :=
  fun W B hB hW => h W B (Nat.le_trans O.size hB) fun k h1 h2 => (hW k h1 (Nat.lt_of_lt_of_le h2 O.size)).trans (O.block k h2 id)
theorem FldsN.dn {w0 w w1 : World} {fs : List Fld} {v : Value} (h : FldsN w w1 fs v) (O : Only (fun _ => False) w0 w) : FldsN w0 w1 fs v :=
  fun W B hB hW => h W B hB fun k h1 h2 => hW k (Nat.le_trans O.size h1) h2
theorem flds_newN {w w1 : World} {cs : Array Value} {t : Nat} {fs : List Fld} (O : Only (fun _ => False) w w1) (h : ∀ W B, w1.heap.size + 1 ≤ B → (∀ k, w.heap.size ≤ k → k < w1.heap.size + 1 → W.heap[k]? = (w1.alloc (.cells cs t)).heap[k]?) → FldsL W B fs cs.toList) : FldsN w (w1.alloc (.cells cs t)) fs (.slice (some ⟨w1.heap.size, 0, none⟩) fs.length fs.length) := by
  intro W B hB hW
  have hs : (w1.alloc (.cells cs t)).heap.size = w1.heap.size + 1 := by simp
  rw [hs] at hB hW
  exact flds_new ((hW w1.heap.size O.size (by omega)).trans (heap_alloc_new _ _)) (by omega) (h W B hB hW)
/-- Sub-fields made before. -/
theorem FldsN.use {w w1 w2 W : World} {B : Nat} {fs : List Fld} {v : Value} (h : FldsN w w1 fs v) (O : Only (fun _ => False) w1 w2) {o : Obj} (hB : w2.heap.size + 1 ≤ B) (hW : ∀ k, w.heap.size ≤ k → k < w2.heap.size + 1 → W.heap[k]? = (w2.alloc o).heap[k]?) : FldsC W B fs v := by
  refine h W B (by have := O.size; omega) fun k h1 h2 => ?_
  have hk := O.size
  rw [hW k h1 (by omega), heap_alloc_old (h := by omega)]
  exact O.block k h2 id
/-- The end of a function that makes a message with fields made before. -/
theorem made {w w1 W' : World} {z0 z1 v0 v1 : Value} {cs : Array Value} {t T : Nat} (h : Only (fun _ => False) (w.alloc (.cells #[z0, z1] T)) w1) (hW : ((w1.setCell ⟨w.heap.size, 0, none⟩ v0).setCell ⟨w.heap.size, 1, none⟩ v1).alloc (.cells cs t) = W') :
    W'.heap[w.heap.size]? = some (.cells #[v0, v1] T) ∧ W'.heap[w1.heap.size]? = some (.cells cs t) ∧ W'.heap.size = w1.heap.size + 1 ∧ Only (fun _ => False) w W' ∧ ∀ k, w.heap.size < k → k < w1.heap.size → W'.heap[k]? = w1.heap[k]? := by
  have hb : w1.heap[w.heap.size]? = some (.cells #[z0, z1] T) := by
    have := h.block w.heap.size (by simp) id
    rwa [heap_alloc_new] at this
  have hs := h.size
  have hs0 : (w.alloc (.cells #[z0, z1] T)).heap.size = w.heap.size + 1 := by simp
  rw [hs0] at hs
  subst hW
  have key : ∀ k, k < w1.heap.size → k ≠ w.heap.size → (((w1.setCell ⟨w.heap.size, 0, none⟩ v0).setCell ⟨w.heap.size, 1, none⟩ v1).alloc (.cells cs t)).heap[k]? = w1.heap[k]? := by
    intro k hk hne
    rw [heap_alloc_old (h := by simpa using hk), Below.heap_setCell _ _ _ _ hne, Below.heap_setCell _ _ _ _ hne]
  have hbl : ((w1.setCell ⟨w.heap.size, 0, none⟩ v0).setCell ⟨w.heap.size, 1, none⟩ v1).heap[w.heap.size]? = some (.cells (((#[z0, z1] : Array Value).setIfInBounds 0 v0).setIfInBounds 1 v1) T) := by
    have h1 : (w1.setCell ⟨w.heap.size, 0, none⟩ v0).heap[w.heap.size]? = some (.cells ((#[z0, z1] : Array Value).setIfInBounds 0 v0) T) := by
      exact heap_setCell_same w1 w.heap.size 0 _ T v0 hb
    exact heap_setCell_same _ w.heap.size 1 _ T v1 h1
  have hbl2 : (((w1.setCell ⟨w.heap.size, 0, none⟩ v0).setCell ⟨w.heap.size, 1, none⟩ v1).alloc (.cells cs t)).heap[w.heap.size]? = some (.cells (((#[z0, z1] : Array Value).setIfInBounds 0 v0).setIfInBounds 1 v1) T) := by
    rw [heap_alloc_old (h := by simp; omega), hbl]
  have hn : (((w1.setCell ⟨w.heap.size, 0, none⟩ v0).setCell ⟨w.heap.size, 1, none⟩ v1).alloc (.cells cs t)).heap[w1.heap.size]? = some (.cells cs t) := by
    have := heap_alloc_new ((w1.setCell ⟨w.heap.size, 0, none⟩ v0).setCell ⟨w.heap.size, 1, none⟩ v1) (.cells cs t)
    simpa using this
  refine ⟨hbl2, hn, by simp, ⟨?_, ?_, ?_, by simp; omega, fun k hk _ => ?_⟩, fun k h1 h2 => key k h2 (by omega)⟩
  · exact h.os
  · exact h.tape
  · exact h.output
  · rw [key k (by omega) (by omega), h.block k (by omega) id, heap_alloc_old (h := hk)]
end Go.Proofs.YtpefipjgcpchaaaGreatDoorR.Kf
