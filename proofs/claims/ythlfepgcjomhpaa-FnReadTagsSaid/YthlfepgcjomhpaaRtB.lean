/- Tags.Each, whatever function is handed to it. -/
import Derived.Test.YthlfepgcjomhpaaTagG
import Derived.Test.YthlfepgcjomhpaaPG
import Derived.Deep.RegionLaw
namespace Go.Proofs.Ythlfepgcjomhpaa.Kf
set_option linter.unusedVariables false
set_option linter.unusedSimpArgs false
open Go Go.RowKit

/-- A block that Each itself may write: a row of numbers, the variable of such a row, a map's iterator. -/
def Mv (w : World) (k : Nat) : Prop := ∀ cur t fr, w.heap[k]? = some (.cells cur t fr) → t = 51 ∨ t = 110
/-- What stays while Each works on its own blocks. -/
def Stb (S : World → Prop) : Prop := ∀ w w' : World, S w → w.heap.size ≤ w'.heap.size → (∀ k, k < w.heap.size → ¬ Mv w k → w'.heap[k]? = w.heap[k]?) → S w'
structure ES (S : World → Prop) (base : Nat) (w wr : World) : Prop where
  o : Only (fun j => base ≤ j) w wr
  s : S wr
theorem Mv.row {base n : Nat} {w : World} {v : Value} {xs : List Value} (h : w.ownsRow base 51 1 v n xs) : ∀ j, v.ownBlock = some j → Mv w j := by
  intro j hj cur t fr hc
  rcases h.2 with ⟨rfl, _⟩ | ⟨g, cap, cur', rfl, _, hg, _⟩
  · simp [Value.ownBlock] at hj
  · have e1 : g = j := by simpa [Value.ownBlock] using hj
    subst e1
    rw [hg] at hc
    cases hc
    exact .inl rfl
theorem ES.grown {S : World → Prop} (hS : Stb S) {base : Nat} {w wr w' : World} {row : Option Nat} (h : ES S base w wr) (hg : wr.grownBy w' row) (hr : ∀ j, row = some j → base ≤ j) (hm : ∀ j, row = some j → Mv wr j) : ES S base w w' :=
  ⟨h.o.trans (Only.grown hg hr), hS wr w' h.s hg.size fun k hk hnm => hg.block k hk fun e => hnm (hm k e.symm)⟩
theorem ES.alloc {S : World → Prop} (hS : Stb S) {base : Nat} {w wr : World} (h : ES S base w wr) (o : Obj) : ES S base w (wr.alloc o) := h.grown hS (World.grownBy_alloc wr o none) (by simp) (by simp)
theorem ES.set {S : World → Prop} (hS : Stb S) {base Bo : Nat} {w wr : World} {u : Value} (h : ES S base w wr) (hB : wr.heap[Bo]? = some (.cells #[u] 110 (0, 0))) (hb : base ≤ Bo) (v : Value) : ES S base w (wr.setCell ⟨Bo, 0, none⟩ v) :=
  ⟨only_setAt h.o hb _ _, hS wr _ h.s (by simp) fun k hk hnm => heap_setCell_other _ _ k v (fun e => hnm (by
    have e' : k = Bo := e
    subst e'
    intro cur t fr hc
    rw [hB] at hc
    cases hc
    exact .inr rfl))⟩
/-- Where the collecting stands. -/
def ECs (S : World → Prop) (base Bo it r D : Nat) (l : List (Nat × List UInt8)) (w : World) (wr : World) : Prop :=
  ∃ (left : Lit → Bool) (cnt : Nat) (ss : List Int) (g c : Nat), wr.ranges Try.prog tgK (RO w D) r it l.length (tagD l) left cnt ∧ ss.length + cnt ≤ l.length ∧ wr.heap[Bo]? = some (.cells #[.slice (some ⟨g, 0, none⟩) ss.length c] 110 (0, 0)) ∧
    wr.ownsRow base 51 1 (.slice (some ⟨g, 0, none⟩) ss.length c) ss.length (ss.map encK) ∧ CollK l left ss ∧ ES S base w wr
/-- Where the handing over stands. -/
def E2s (St : Nat → World → Prop) (base g c : Nat) (l : List (Nat × List UInt8)) (w : World) (k : Nat) (wr : World) : Prop :=
  ES (St k) base w wr ∧ wr.ownsRow base 51 1 (.slice (some ⟨g, 0, none⟩) l.length c) l.length ((keysT l).map encK)
/-- What one call of the function comes to. -/
def FnC (St : Nat → World → Prop) (base k : Nat) (wr : World) (e : Ending) (w' : World) : Prop :=
  e = .returned (.tuple #[]) ∧ St (k + 1) w' ∧ Only (fun j => base ≤ j) wr w' ∧ ∀ (j : Nat) (cur : Array Value) (fr : Nat × Nat), wr.heap[j]? = some (Obj.cells cur 51 fr) → w'.heap[j]? = wr.heap[j]?
theorem E2s.step {St : Nat → World → Prop} {base g c k : Nat} {l : List (Nat × List UInt8)} {w wr w' : World} {e : Ending} (hrow : wr.ownsRow base 51 1 (.slice (some ⟨g, 0, none⟩) l.length c) l.length ((keysT l).map encK))
    (hek : ES (St k) base w wr) (h : FnC St base k wr e w') : e = .returned (.tuple #[]) ∧ E2s St base g c l w (k + 1) w' := by
  obtain ⟨he, hs, ho, hk⟩ := h
  refine ⟨he, ⟨hek.o.trans ho, hs⟩, row_keep hrow fun g' hg' => ?_⟩
  have hgg : g = g' := by simpa [Value.ownBlock] using hg'
  subst hgg
  rcases hrow.2 with ⟨h0, _⟩ | ⟨g', cap, cur', hv, _, hh, _⟩
  · cases h0
  · injection hv with e1 _ _
    injection e1 with e1
    injection e1 with e1
    subst e1
    exact hk _ _ _ hh
theorem mv_iter {w : World} {it : Nat} (h : ∀ (cur : Array Value) (t : TypeId) (fr : Nat × Nat), w.heap[it]? ≠ some (Obj.cells cur t fr)) : Mv w it := fun cur t fr hc => absurd hc (h cur t fr)

set_option maxRecDepth 100000 in
set_option maxHeartbeats 1000000 in
theorem each_gen {D base b off Bd r : Nat} {w : World} {St : Nat → World → Prop} {l : List (Nat × List UInt8)} (hS : ∀ k, Stb (St k)) (hc : w.cell? ⟨b, off, none⟩ = some (.map (some r))) (hm : MapAt w D r l) (hne : l ≠ []) (hu : upTags 0 l) (hl : l.length < 4294967296)
    (hs0 : St 0 w) (hbl : base ≤ w.heap.size) (hbb : b < base) (hrb : r < base) (hD : D < base)
    (hF : ∀ k (hk : k < l.length) (wr : World) (v : Value) (nn : Bool), St k wr → base ≤ wr.heap.size → Sp wr D nn v l[k].2 → Calls Try.prog 35 #[.int .u32 l[k].1, v, .pointer (some ⟨Bd, 0, none⟩)] wr (FnC St base k wr)) :
    Calls Try.prog 34 #[.pointer (some ⟨b, off, none⟩), .func (.func 35) #[] #[.pointer (some ⟨Bd, 0, none⟩)]] w (fun e w' => e = .returned (.tuple #[]) ∧ Only (fun j => base ≤ j) w w' ∧ St l.length w') := by
  obtain ⟨i0, hi, hz0, hz1, hz2⟩ := info_parts info_u32e
  have hown := hm.owns (P := Try.prog) (k := tgK) und_tgK hu (by unfold maxLen; omega)
  have hL := hown.len Try.underlying61 3
  rw [tagD_size] at hL
  have hn0 : ¬ ((l.length : Nat) : Int) = 0 := by have := List.length_pos_iff.2 hne; omega
  have hn0' : (((l.length : Nat) : Int) == 0) = false := by simpa using hn0
  have HOWN := Lib.hid hown
  have HEK : Hid (ES (St 0) base w w) := Lib.hid ⟨Only.refl _ _, hs0⟩
  have HSt := Lib.hid hS
  have HFn := Lib.hid hF
  have HU := Lib.hid hu
  have HLL := Lib.hid hl
  clear hown hs0 hu hm hne hS hF
  go_enter Try.func34, Try.ntmps34
  go_wp2_with (first
    | (at_make; refine wpList_make_own _ rfl _ _ 110 rfl base 51 i0 (.int .u32 0) 1 Try.underlying110 hi hz0 hz1 _ _ _ l.length rfl rfl rfl (by rw [hz2]; omega) (by unfold maxLen; omega) hbl ?_; intro w1 hrow1 hg1
       have hEK1 := HEK.out.grown (HSt.out 0) hg1 (by simp) (by simp)
       have hC1 : (w1.alloc (.cells #[.slice (some ⟨w.heap.size, 0, none⟩) 0 l.length] 110)).cell? ⟨b, off, none⟩ = some (.map (some r)) := (World.cell?_of_block (w := w) (((hEK1.alloc (HSt.out 0) _).o).block b (by omega) (by omega))).trans hc
       have HO1 := Lib.hid ((HOWN.out.kept hg1 (by simp)).alloc (.cells #[.slice (some ⟨w.heap.size, 0, none⟩) 0 l.length] 110))
       have HROW1 := Lib.hid (World.ownsRow.alloc hrow1 (.cells #[.slice (some ⟨w.heap.size, 0, none⟩) 0 l.length] 110))
       have HEK1 := Lib.hid (hEK1.alloc (HSt.out 0) (.cells #[.slice (some ⟨w.heap.size, 0, none⟩) 0 l.length] 110))
       have HBo : Hid ((w1.alloc (.cells #[.slice (some ⟨w.heap.size, 0, none⟩) 0 l.length] 110)).heap[w1.heap.size]? = some (.cells #[.slice (some ⟨w.heap.size, 0, none⟩) 0 l.length] 110 (0, 0))) := Lib.hid (heap_alloc_new _ _)
       have HS1 := Lib.hid hg1.size
       clear hrow1 hg1 hEK1)
    | (at_range; refine wpList_range_own _ rfl _ 61 rfl tgK 23 law_tgK Try.underlying61 (RO w D) r l.length (tagD l) rfl HO1.out ?_; intro w2 hrg2 hg2 hs2; have HRG2 := Lib.hid hrg2; have HG2 := Lib.hid hg2; clear hrg2 hg2 hs2)
    | fail)
  have hbl1 : base ≤ w1.heap.size := Nat.le_trans hbl HS1.out
  have hitb : base ≤ (w1.alloc (.cells #[.slice (some ⟨w.heap.size, 0, none⟩) 0 l.length] 110)).heap.size := by simp; omega
  generalize (w1.alloc (.cells #[.slice (some ⟨w.heap.size, 0, none⟩) 0 l.length] 110)).heap.size = it at HRG2 hitb ⊢
  clear hC1
  go_frame
  go_loopw [] (fun wr => ECs (St 0) base w1.heap.size it r D l w wr) (fun wr => wr.rangeLeft r it)
  case atStart =>
    have hg := HG2.out
    refine ⟨_, _, [], w.heap.size, l.length, HRG2.out, by rw [tagD_size]; simp, ?_, ?_, CollK.start l, HEK1.out.grown (HSt.out 0) hg (by simp) (by simp)⟩
    · exact (hg.block _ (by simp) (by simp)).trans HBo.out
    · exact World.ownsRow.kept HROW1.out hg (.inr (by simp [Value.ownBlock]))
  case round =>
    obtain ⟨left, cnt, ss, g, c, hrg, hcs, hbo, hrow, hC, hek⟩ := hrel
    have HRG := Lib.hid hrg
    have HBO := Lib.hid hbo
    have HROW := Lib.hid hrow
    have HC := Lib.hid hC
    have HEKr := Lib.hid hek
    have HCS := Lib.hid hcs
    have co : wr.cell? ⟨w1.heap.size, 0, none⟩ = some (.slice (some ⟨g, 0, none⟩) ss.length c) := cell_of_one hbo
    clear hrg hbo hrow hC hek hcs
    go_wp2_with (first
      | (at_next; refine wpList_next_ranges _ rfl _ rfl tgK law_tgK (RO w D) encK (fun v : Value => v) (fun key kl hk => by obtain ⟨x, hx, _⟩ := Maps.keyOf_int_inv und_tgK hk; exact ⟨x, hx⟩) (fun v y hv => ⟨v, rfl⟩) r it l.length _ _ _ rfl HRG.out ?_ ?_)
      | fail)
    · intro hc0 hl0
      have hperm := HC.out.perm HU.out hl0
      have hssl : ss.length = l.length := by have := hperm.length_eq; simpa [keysT] using this
      have hbo := HBO.out
      have hrow := HROW.out
      rw [hssl] at co hbo hrow
      have cS := Lib.hid (sort_keys HU.out hperm hbo hrow HLL.out hbl1)
      have HEKs := Lib.hid (fun (w' : World) (hg : wr.grownBy w' (some g)) => HEKr.out.grown (HSt.out 0) hg (fun j e => by cases e; exact (World.ownsRow.lt hrow g rfl).1) (fun j e => Mv.row hrow j e))
      clear HBO HROW HC hbo hrow hperm hssl
      go_wp2_with (go_at_call 61; refine cS.out.mono ?_; rintro e4 w4 ⟨rfl, hg4, hb4, hr4⟩; have HEK4 := Lib.hid (HEKs.out _ hg4); have co4 := cell_of_one hb4; have HR4 := Lib.hid hr4; clear hg4 hb4 hr4 cS)
      go_loopw [39] (fun v wr2 => ∃ k, k ≤ l.length ∧ v = .int .i64 (k : Nat) ∧ E2s St base g c l w k wr2) (fun v _ => l.length - (intOf v).toNat)
      case atStart => exact ⟨0, Nat.zero_le _, rfl, HEK4.out, HR4.out⟩
      case round =>
        obtain ⟨k, hk, rfl, hek, hrow⟩ := hrel
        have HEK5 := Lib.hid hek
        have HR5 := Lib.hid hrow
        by_cases hlt : k < l.length
        · have hO := hek.o
          have cm : wr.cell? ⟨b, off, none⟩ = some (.map (some r)) := (World.cell?_of_block (w := w) (hO.block b (by omega) (by omega))).trans hc
          have hmap : wr.ownsMap Try.prog tgK (RO w D) r l.length (tagD l) := by
            obtain ⟨es, clock, hb, rest⟩ := HOWN.out
            exact ⟨es, clock, (hO.block r (by omega) (by omega)).trans hb, rest⟩
          rw [← RO_keep (hO.block D (by omega) (by omega))] at hmap
          obtain ⟨v, nn, hlk, hsp⟩ := look_tag hmap HU.out l[k] (List.getElem_mem hlt)
          have hck : wr.cell? ⟨g, k, none⟩ = some (.int .u32 (l[k].1 : Nat)) := by
            have := World.ownsRow.cellAt hrow k (by omega)
            rw [this]
            simp [keysT, hlt]
          have cO := Lib.hid ((HFn.out k hlt wr v nn hek.s (by have := hO.size; omega) hsp).mono (R' := fun e w' => e = .returned (.tuple #[]) ∧ E2s St base g c l w (k + 1) w') fun e w' h => E2s.step hrow hek h)
          have hlt' : ((k : Int) < (l.length : Int)) := by omega
          clear hek hrow hmap hsp hO
          generalize l[k].1 = key at *
          go_wp2_with (go_at_call 35; refine cO.out.mono ?_; rintro e5 w5 ⟨rfl, h5⟩; have H5 := Lib.hid h5; clear h5 cO)
          go_roundw
          case rel => exact ⟨k + 1, hlt, rfl, H5.out⟩
          case measure => exact msr l.length k _ _ hlt rfl rfl
        · obtain rfl : k = l.length := by omega
          have hlt' : ¬ ((l.length : Int) < (l.length : Int)) := by omega
          clear hek hrow
          go_wp2_with fail
          refine bodyPost_end (results_none rfl _ _ _) rfl ?_
          have hE := HEK5.out
          exact ⟨rfl, hE.o, hE.s⟩
    · intro x cv kl yd yp w3 cnt2 hkey hlk hv hat hrg2 hlt hg3 hs3 hen
      obtain ⟨x', ex, rfl, hwx⟩ := Maps.keyOf_int_inv und_tgK hkey
      cases ex
      have hrow := HROW.out
      have hbo := HBO.out
      have HRG2 := Lib.hid hrg2
      have hEK3 := HEKr.out.grown (HSt.out 0) hg3 (fun j e => by cases e; exact hitb) (fun j e => by cases e; exact mv_iter (fun cur t fr h => by obtain ⟨_, _, _, _, _, _, _, _, _, hit, _⟩ := HRG.out; rw [hit] at h; cases h))
      have hrow3 := World.ownsRow.kept hrow hg3 (Or.inr (row_ne_iter hrow HRG.out).symm)
      have hne2 : w1.heap.size ≠ it := by
        intro e
        obtain ⟨_, _, _, _, _, _, _, _, _, hit, _⟩ := HRG.out
        rw [e, hit] at hbo; cases hbo
      have hbo3 := (hg3.block w1.heap.size (lt_of_block hbo) (by intro e; cases e; exact hne2 rfl)).trans hbo
      have co3 : w3.cell? ⟨w1.heap.size, 0, none⟩ = some (.slice (some ⟨g, 0, none⟩) ss.length c) := cell_of_one hbo3
      have hEK3a := hEK3.alloc (HSt.out 0) (.cells #[encK x] 51)
      have hrow3a := World.ownsRow.alloc hrow3 (.cells #[encK x] 51)
      have HA3 := Lib.hid hrow3a
      have HE3 := Lib.hid hEK3a
      have HE3o := Lib.hid hEK3
      have HB3 := Lib.hid hbo3
      have HC3 := Lib.hid (HC.out.step hlk hat)
      have HX : Hid (base ≤ w3.heap.size) := Lib.hid (Nat.le_trans hbl hEK3.o.size)
      have HB4 := Lib.hid (hEK3.o)
      clear hs3 hrow hbo hEK3 hrow3 hbo3 hEK3a hrow3a hne2 hkey hlk hat hg3 hrg2 hv hwx
      go_wp2_with (first
        | (at_builtin; refine wpList_append_own _ rfl _ _ 110 rfl base 51 i0 (.int .u32 0) 1 4 Try.underlying110 hi hz0 hz1 hz2 rfl (by decide) _ _ _ rfl HA3.out ⟨w3.heap.size, 0, none⟩ 1 1 [encK x] rfl rfl (cell_one_new _ _ _) (by simp [Value.oneCell', encK]) ?_ ?_ ?_ ?_; (have := HCS.out; unfold maxLen; omega); (have := HCS.out; omega); (have := HX.out; simp; omega)
           intro v' w4 hown' hg4 hnil4
           have hne4 : v' ≠ .slice none 0 0 := fun e => by have := (hnil4.1 e).1; cases this
           obtain ⟨g4, c4, e4⟩ := own_form hown' hne4
           subst e4
           have hown4 : w4.ownsRow base 51 1 (.slice (some ⟨g4, 0, none⟩) (ss.length + 1) c4) (ss.length + 1) ((ss ++ [x]).map encK) := by simpa using hown'
           have HO4 := Lib.hid hown4
           have HG4 := Lib.hid hg4
           have hb4 := (hg4.block w1.heap.size (by have := lt_of_block HB3.out; simp; omega) (by intro e; exact row_ne_box (b := w1.heap.size) (t := 110) HA3.out ((heap_alloc_old3 HB3.out)) (by decide) e.symm)).trans (heap_alloc_old3 HB3.out)
           have HB5 := Lib.hid hb4
           have f4 := free_of_one hb4
           have co4 := cell_of_one hb4
           clear hown' hg4 hnil4 hne4 hown4 hb4)
        | fail)
      have hgs : w4.grownBy (w4.setCell ⟨w1.heap.size, 0, none⟩ (.slice (some ⟨g4, 0, none⟩) (ss.length + 1) c4)) (some w1.heap.size) := ⟨rfl, rfl, rfl, by simp, fun k hk hne => heap_setCell_other _ _ k _ (fun e => hne (by have e' : k = w1.heap.size := e; rw [e']))⟩
      have hrb2 : some r ≠ some w1.heap.size := by intro e; cases e; omega
      have hg3r := row_ne_low HA3.out hrb
      have hitr := row_ne_iter HA3.out (HRG2.out.alloc _)
      have hrg4 := (HRG2.out.alloc (.cells #[encK x] 51)).kept HG4.out hg3r hitr
      have hiB : some it ≠ some w1.heap.size := by
        intro e
        cases e
        obtain ⟨_, _, _, _, _, _, _, _, _, hit, _⟩ := hrg4
        have := HB5.out
        rw [hit] at this; cases this
      have hrg5 := hrg4.kept hgs hrb2 hiB
      have hek4 := HE3.out.grown (HSt.out 0) HG4.out (fun j e => (World.ownsRow.lt HA3.out j e).1) (fun j e => Mv.row HA3.out j e)
      go_roundw
      case rel =>
        refine ⟨_, cnt2, ss ++ [x], g4, c4, hrg5, by have := HCS.out; simp; omega, ?_, ?_, HC3.out, hek4.set (HSt.out 0) HB5.out hbl1 _⟩
        · rw [List.length_append]; exact one_setCell HB5.out
        · rw [List.length_append]; exact ownsRow_setCell_other HO4.out (row_ne_box (b := w1.heap.size) (t := 110) HO4.out HB5.out (by decide)) _
      case measure => rw [hrg5.left_eq, HRG.out.left_eq]; exact hlt


/-! ### the function that impl.tagged hands over -/
def BBt (b : Nat) (w : World) (v : Value) : Prop := w.heap[b]? = some (.cells #[v] 22 (0, 0))
/-- Tags in memory, each with octets of its own. -/
def TL (base : Nat) (w : World) (v : Value) (acc : List TV) : Prop := w.ownsRow base 53 2 v acc.length (cells2 (acc.map cellE)) ∧ ∀ e ∈ acc, Own 5 base w e.2 e.1.2
/-- What the tags' variable holds when k tags have been told. -/
def StT (base Bd : Nat) (D : Nat) (o0 : Option Obj) (l : List (Nat × List UInt8)) (k : Nat) (w : World) : Prop := Bd < w.heap.size ∧ w.heap[D]? = o0 ∧ ∃ (v : Value) (acc : List TV), BBt Bd w v ∧ TL base w v acc ∧ acc.map Prod.fst = l.take k
theorem own_stays {U base sz n : Nat} {w w' : World} {v : Value} {xs : List Value} (h : w.ownsRow base U sz v n xs) (hU : U ≠ 51) (hU2 : U ≠ 110) (hk : ∀ k, k < w.heap.size → ¬ Mv w k → w'.heap[k]? = w.heap[k]?) : w'.ownsRow base U sz v n xs :=
  row_keep h fun g hg => by
    refine hk g (World.ownsRow.lt h g hg).2 fun hm => ?_
    rcases h.2 with ⟨rfl, _⟩ | ⟨g', cap, cur', rfl, _, hh, _⟩
    · simp [Value.ownBlock] at hg
    · have e1 : g' = g := by simpa [Value.ownBlock] using hg
      subst e1
      exact (hm _ _ _ hh).elim hU hU2
theorem stT_stb {base Bd D : Nat} {cur : Array Value} {e : TypeId} {fr : Nat × Nat} (he : e ≠ 51) (he2 : e ≠ 110) (l : List (Nat × List UInt8)) (k : Nat) : Stb (StT base Bd D (some (.cells cur e fr)) l k) := by
  intro w w' ⟨hb, hD, v, acc, h1, h2, h3⟩ hs hk
  refine ⟨by omega, ?_, v, acc, ?_, ⟨own_stays h2.1 (by decide) (by decide) hk, fun x hx => own_stays (h2.2 x hx) (by decide) (by decide) hk⟩, h3⟩
  · refine (hk D (lt_of_block hD) fun hm => ?_).trans hD
    rcases hm _ _ _ hD with h | h
    · exact he h
    · exact he2 h
  · refine (hk Bd hb fun hm => ?_).trans h1
    have h := hm _ _ _ h1
    revert h
    decide

theorem step_append_own {P : Program} {ops : Array Oper} {E : Prop} {o : Oper} {a : Act} {w : World} {K : Act → World → Prop} {Q : Exit → Act → World → Prop} (hgd : o.guard = none) (s x : Operand) (t : TypeId)
    (ho : o.op = .call { callee := .builtin .append, args := #[s, x], argTypes := #[t, t] })
    (base : Nat) (e : TypeId) (i : TypeInfo) (z : Value) (size bytes : Nat) (ht : P.underlying t = some (.slice e)) (hi : P.info? e = some i) (hz : i.zero = some z)
    (hsize : i.size = size) (hby : i.bytes = bytes) (hzs : z.cells.size = size) (hsz : 0 < size)
    (v : Value) (n : Nat) (xs : List Value) (hs : a.eval s = v) (hown : w.ownsRow base e size v n xs)
    (ad : Addr) (m c : Nat) (news : List Value) (hx : a.eval x = .slice (some ad) m c) (hl : news.length = m * size) (hnews : ∀ j u, news[j]? = some u → w.cell? (ad.add j) = some u) (h1 : ∀ u ∈ news, u.oneCell' = true)
    (h63 : n + m ≤ maxLen) (hbytes : (n + m) * bytes ≤ 140737488355328) (hbase : base ≤ w.heap.size)
    (h : ∀ v' w', w'.ownsRow base e size v' (n + m) (xs ++ news) → w.grownBy w' v.ownBlock → (v' = .slice none 0 0 ↔ v = .slice none 0 0 ∧ m = 0) → K (a.put o.dst v') w') : if Region.wanted o (yielded ops a.tmps) = true then Oper.wp P o a w K Q else E := by
  have hw : Region.wanted o (yielded ops a.tmps) = true := by simp [Region.wanted, hgd]
  rw [if_pos hw]
  exact wp_append_own w s x t ho base e i z size bytes ht hi hz hsize hby hzs hsz v n xs hs hown ad m c news hx hl hnews h1 h63 hbytes hbase h
theorem sp_oc {w : World} {D : Nat} {nn : Bool} {v : Value} {s : List UInt8} (h : Sp w D nn v s) : Oc w (D + 1) v s := by
  rcases h with ⟨_, rfl, rfl⟩ | ⟨_, o, c, rfl, hc, hcell⟩
  · exact .inl ⟨rfl, rfl⟩
  · refine .inr ⟨⟨D, o, none⟩, c, rfl, hc, fun j b hb => ⟨Nat.lt_succ_self _, ?_⟩⟩
    have e1 : (⟨D, o, none⟩ : Addr).add j = ⟨D, o + j, none⟩ := by simp [Addr.add]
    rw [e1]
    exact hcell j b hb
theorem rows_ne {base base' e e' size size' n n' : Nat} {w : World} {v u : Value} {xs ys : List Value} (h : w.ownsRow base e size v n xs) (k : w.ownsRow base' e' size' u n' ys) (hne : e ≠ e') : ∀ j, v.ownBlock = some j → u.ownBlock ≠ some j := by
  intro j h1 h2
  rcases h.2 with ⟨rfl, _⟩ | ⟨g, cap, cur, rfl, _, hg, _⟩
  · simp [Value.ownBlock] at h1
  rcases k.2 with ⟨rfl, _⟩ | ⟨g', cap', cur', rfl, _, hg', _⟩
  · simp [Value.ownBlock] at h2
  have e1 : g = j := by simpa [Value.ownBlock] using h1
  have e2 : g' = j := by simpa [Value.ownBlock] using h2
  subst e1; subst e2
  rw [hg] at hg'
  injection hg' with hg'
  injection hg' with _ hg'
  exact hne hg'
theorem info_itag : (Try.prog.info? 53).map (fun i => (i.zero, i.size, i.bytes)) = some (some (.agg #[.int .u32 0, .slice none 0 0]), 2, 32) := by kernel_rfl
theorem own_cell {U base sz n : Nat} {w : World} {v : Value} {xs : List Value} (h : w.ownsRow base U sz v n xs) : v.oneCell' = true := by
  rcases h.2 with ⟨rfl, _⟩ | ⟨g, cap, cur, rfl, _⟩ <;> rfl

theorem own_sl' {U base sz n : Nat} {w : World} {v : Value} {xs : List Value} (h : w.ownsRow base U sz v n xs) : ∃ A n c, v = .slice A n c := by
  rcases h.2 with ⟨rfl, _⟩ | ⟨g, cap, cur, rfl, _⟩
  · exact ⟨_, _, _, rfl⟩
  · exact ⟨_, _, _, rfl⟩
set_option maxRecDepth 100000 in
set_option maxHeartbeats 1000000 in
theorem tagged1 {base Bd D k : Nat} {o0 : Option Obj} {l : List (Nat × List UInt8)} {w : World} {v : Value} {nn : Bool} (hS : StT base Bd D o0 l k w) (hk : k < l.length) (hb : base ≤ w.heap.size) (hBd : base ≤ Bd) (hDb : D < base) (hsp : Sp w D nn v l[k].2) (hlen : l[k].2.length ≤ 65536) (hll : l.length ≤ 65536) :
    Calls Try.prog 35 #[.int .u32 l[k].1, v, .pointer (some ⟨Bd, 0, none⟩)] w (FnC (StT base Bd D o0 l) base k w) := by
  obtain ⟨i0, hi, hz0, hz1, hz2⟩ := info_u8
  obtain ⟨it, hit, hit0, hit1, hit2⟩ := info_parts info_itag
  obtain ⟨hBl, hDo, dv, acc, hbb, hTL, hacc⟩ := hS
  have htake : l.take (k + 1) = l.take k ++ [l[k]] := List.take_succ_eq_append_getElem hk
  have hal : acc.length ≤ k := by have := congrArg List.length hacc; simp at this; omega
  have HTL := Lib.hid hTL
  have HBB := Lib.hid hbb
  have hoc := sp_oc hsp
  have HOC := Lib.hid (show Oc w.drew (D + 1) v l[k].2 from hoc)
  have HLE : Hid (([] : List UInt8).length + l[k].2.length ≤ lim2) := Lib.hid (by unfold lim2; simp; omega)
  have c0 : w.cell? ⟨Bd, 0, none⟩ = some dv := cell_of_one hbb
  have f0 : w.frozen? ⟨Bd, 0, none⟩ = false := free_of_one hbb
  have HS0 := Lib.hid (show w.drew.cell? ⟨Bd, 0, none⟩ = some dv ∧ w.drew.frozen? ⟨Bd, 0, none⟩ = false from ⟨c0, f0⟩)
  obtain ⟨A, cv, rfl, _⟩ := hoc.sl
  obtain ⟨A0, n0, c0', rfl⟩ := own_sl' hTL.1
  clear hTL hsp hoc hbb
  generalize hx : l[k] = x at *
  obtain ⟨key, val⟩ := x
  simp only at *
  go_enter Try.func35, Try.ntmps35
  have q0 := HS0.out.1
  have q1 := HS0.out.2
  go_region_law
    (first
      | (refine step_app_oc rfl _ _ 23 rfl Try.underlying23 hi hz0 hz1 hz2 (base := w.heap.size) (v := .slice none 0 0) (ds := []) rfl (World.ownsRow_nil _ _ _ _) rfl HOC.out (Nat.le_refl _) HLE.out ?_
         intro v5 w5 ho5 hw5
         obtain ⟨A5, n5, c5, rfl⟩ := own_sl ho5
         have hb5 : w5.heap[Bd]? = some (.cells #[.slice A0 n0 c0'] 22 (0, 0)) := (hw5.block Bd hBl (by omega)).trans HBB.out
         have HB5 := Lib.hid hb5
         have HB5a := Lib.hid ((heap_alloc_old3 hb5 : (w5.alloc (.cells #[.int .u32 (key : Int), .slice A5 n5 c5] 53)).heap[Bd]? = _))
         have s5a := cell_of_one hb5
         have s5b := free_of_one hb5
         have saa := cell_of_one HB5a.out
         have sab := free_of_one HB5a.out
         have HTL5 : Hid (TL base w5 (.slice A0 n0 c0') acc) := Lib.hid ⟨row_keep HTL.out.1 fun g hg => hw5.block g (World.ownsRow.lt HTL.out.1 g hg).2 (by have := (World.ownsRow.lt HTL.out.1 g hg).2; omega), fun x hx => row_keep (HTL.out.2 x hx) fun g hg => hw5.block g (World.ownsRow.lt (HTL.out.2 x hx) g hg).2 (by have := (World.ownsRow.lt (HTL.out.2 x hx) g hg).2; omega)⟩
         have HRA := Lib.hid (World.ownsRow.alloc HTL5.out.1 (.cells #[.int .u32 (key : Int), .slice A5 n5 c5] 53))
         have HNEW : Hid (∀ j u, [Value.int .u32 (key : Int), .slice A5 n5 c5][j]? = some u → (w5.alloc (.cells #[.int .u32 (key : Int), .slice A5 n5 c5] 53)).cell? ((⟨w5.heap.size, 0, none⟩ : Addr).add j) = some u) := Lib.hid (fun j u hj => by
           have e1 : (⟨w5.heap.size, 0, none⟩ : Addr).add j = ⟨w5.heap.size, j, none⟩ := by simp [Addr.add]; intro h; exact h.symm
           rw [e1, World.cell?_alloc_mark]
           simpa using hj)
         have HSZ : Hid (base ≤ (w5.alloc (.cells #[.int .u32 (key : Int), .slice A5 n5 c5] 53)).heap.size) := Lib.hid (by have := hw5.size; have h2 : w.drew.heap.size = w.heap.size := rfl; simp; omega)
         have HO5 := Lib.hid ho5
         have HW5 : Hid (Only (fun j => w.heap.size ≤ j) w w5) := Lib.hid ⟨hw5.os, hw5.tape, hw5.output, hw5.size, hw5.block⟩
         clear ho5 hw5 hb5)
      | (refine step_append_own rfl _ _ 22 rfl base 53 it (.agg #[.int .u32 0, .slice none 0 0]) 2 32 Try.underlying22 hit hit0 hit1 hit2 rfl (by decide) _ acc.length _ rfl HRA.out ⟨w5.heap.size, 0, none⟩ 1 1 [.int .u32 (key : Int), .slice A5 n5 c5] rfl rfl HNEW.out (by intro u hu; simp at hu; rcases hu with rfl | rfl <;> rfl) (by unfold maxLen; omega) (by omega) HSZ.out ?_
         intro v6 w6 h6 hg6 hn6
         obtain ⟨g6, c6, rfl⟩ := own_form h6 (fun e => by have h7 := hn6.1 e; omega)
         have hb6 := (hg6.block Bd (lt_of_block HB5a.out) (fun e => row_ne_box (b := Bd) (t := 22) HRA.out HB5a.out (by decide) e.symm)).trans HB5a.out
         have HB6 := Lib.hid hb6
         have s6a := cell_of_one hb6
         have s6b := free_of_one hb6
         have H6 := Lib.hid h6
         have HG6 := Lib.hid hg6
         clear h6 hg6 hn6 hb6))
  all_goals
    go_end0
    have hg6 : (w5.alloc (.cells #[.int .u32 (key : Int), .slice A5 n5 c5] 53)).grownBy w6 (Value.ownBlock (.slice A0 n0 c0')) := HG6.out
    have hrl := HTL5.out.1
    have hrow0 := HTL.out.1
    have k5 : ∀ k, k < w5.heap.size → k ≠ Bd → Value.ownBlock (.slice A0 n0 c0') ≠ some k → (w6.setCell ⟨Bd, 0, none⟩ (.slice (some ⟨g6, 0, none⟩) (acc.length + 1) c6)).heap[k]? = w5.heap[k]? := fun k hk h1 h2 =>
      (heap_setCell_other _ _ k _ h1).trans ((hg6.block k (by simp; omega) (fun e => h2 e.symm)).trans ((MapKept.heap_alloc w5 _).2 k hk))
    have k0 : ∀ k, k < w.heap.size → k ≠ Bd → Value.ownBlock (.slice A0 n0 c0') ≠ some k → (w6.setCell ⟨Bd, 0, none⟩ (.slice (some ⟨g6, 0, none⟩) (acc.length + 1) c6)).heap[k]? = w.heap[k]? := fun k hk h1 h2 =>
      (k5 k (Nat.lt_of_lt_of_le hk HW5.out.size) h1 h2).trans (HW5.out.block k hk (by omega))
    have hsz6 : w5.heap.size < w6.heap.size := by have := hg6.size; simp at this; omega
    have hDl : D < w.heap.size := by omega
    have hO5 : Own 5 w.heap.size w5 (.slice A5 n5 c5) val := HO5.out
    refine ⟨rfl, ⟨by have := HW5.out.size; simp; omega, ?_, _, acc ++ [((key, val), .slice A5 n5 c5)], one_setCell HB6.out, ⟨?_, ?_⟩, ?_⟩, ?_, ?_⟩
    · refine (k0 D hDl (by omega) fun e => ?_).trans hDo
      have := (World.ownsRow.lt hrow0 D e).1
      omega
    · have h1 : (w6.setCell ⟨Bd, 0, none⟩ (.slice (some ⟨g6, 0, none⟩) (acc.length + 1) c6)).ownsRow base 53 2 (.slice (some ⟨g6, 0, none⟩) (acc.length + 1) c6) (acc.length + 1) _ := ownsRow_setCell_other H6.out (row_ne_box (b := Bd) (t := 22) H6.out HB6.out (by decide)) _
      rw [List.length_append, List.map_append, cells2_app]
      exact h1
    · intro y hy
      rcases List.mem_append.1 hy with hy | hy
      · have ho := HTL5.out.2 y hy
        exact row_keep ho fun g hg => k5 g (World.ownsRow.lt ho g hg).2 (fun e => row_ne_box (b := Bd) (t := 22) ho HB5.out (by decide) (by rw [hg, e])) (fun e => row_ne_row ho hrl (by decide) g hg e)
      · have e : y = ((key, val), .slice A5 n5 c5) := by simpa using hy
        subst e
        exact Own.lower (show Own 5 w.heap.size _ _ val from row_keep hO5 fun g hg => k5 g (World.ownsRow.lt hO5 g hg).2 (by have := (World.ownsRow.lt hO5 g hg).1; omega) (fun e => rows_ne hO5 hrl (by decide) g hg e)) hb
    · rw [List.map_append, hacc, htake]
      rfl
    · refine only_setAt ?_ hBd _ _
      exact ((HW5.out.mono fun j _ (h : w.heap.size ≤ j) => (by omega : base ≤ j)).alloc _).trans (Only.grown hg6 fun j e => (World.ownsRow.lt hrow0 j e).1)
    · intro j cur fr hj
      refine k0 j (lt_of_block hj) ?_ ?_
      · rintro rfl
        have h := HBB.out
        unfold BBt at h
        rw [hj] at h
        injection h with h
        injection h with _ h
        exact absurd h (by decide)
      · intro e
        rcases hrow0.2 with ⟨h, _⟩ | ⟨g, cap, cur', h, _, hh, _⟩
        · rw [h] at e; simp [Value.ownBlock] at e
        · rw [h] at e
          have e1 : g = j := by simpa [Value.ownBlock] using e
          subst e1
          rw [hj] at hh
          injection hh with hh
          injection hh with _ hh
          exact absurd hh (by decide)
end Go.Proofs.Ythlfepgcjomhpaa.Kf
