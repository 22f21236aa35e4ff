/- Tags are written, all: by rising numbers. -/
import Derived.Test.YtpefipjgcpchaaaGreatDoorRTagF
import Derived.OwnWalk
import Derived.Maps.AppendAt
import Derived.Maps.RangeWalk
namespace Go.Proofs.YtpefipjgcpchaaaGreatDoorR.Kf
set_option linter.unusedVariables false
set_option linter.unusedSimpArgs false
open Go Go.RowKit

theorem info_u32e : (Tryz.prog.info? 57).map (fun i => (i.zero, i.size, i.bytes)) = some (some (.int .u32 0), 1, 4) := by kernel_rfl
theorem law_tgK : Maps.Keyed Tryz.prog tgK := Maps.int_keyed und_tgK
/-- What the writing of all tags comes to. -/
def EachP (base Bd : Nat) (w : World) (out : List UInt8) (e : Ending) (w' : World) : Prop := e = .returned (.tuple #[]) ∧ Only (fun j => base ≤ j) w w' ∧ ∃ dv', BB Bd w' dv' ∧ Own 5 base w' dv' out

set_option maxRecDepth 100000 in
theorem each_none {base b off Bd : Nat} {w : World} {dv fv : Value} {ds : List UInt8} (hc : w.cell? ⟨b, off, none⟩ = some (.map none)) (hb : BB Bd w dv) (ho : Own 5 base w dv ds) :
    Calls Tryz.prog 78 #[.pointer (some ⟨b, off, none⟩), fv] w (EachP base Bd w ds) := by
  have HB := Lib.hid hb
  have HO := Lib.hid ho
  clear hb ho
  go_enter Tryz.func78, Tryz.ntmps78
  go_wp2
  refine bodyPost_ret (results_none rfl _ _ _) rfl ?_
  exact ⟨rfl, Only.refl _ _, _, HB.out, HO.out⟩
set_option maxRecDepth 100000 in
theorem each_empty {base b off Bd r D : Nat} {w : World} {dv fv : Value} {ds : List UInt8} (hc : w.cell? ⟨b, off, none⟩ = some (.map (some r))) (hm : MapAt w D r []) (hb : BB Bd w dv) (ho : Own 5 base w dv ds) :
    Calls Tryz.prog 78 #[.pointer (some ⟨b, off, none⟩), fv] w (EachP base Bd w ds) := by
  have hL := (hm.owns und_tgK trivial (by decide)).len Tryz.underlying62 3
  rw [tagD_size] at hL
  have HB := Lib.hid hb
  have HO := Lib.hid ho
  clear hb ho hm
  go_enter Tryz.func78, Tryz.ntmps78
  go_wp2
  refine bodyPost_ret (results_none rfl _ _ _) rfl ?_
  exact ⟨rfl, Only.refl _ _, _, HB.out, HO.out⟩

/-- What stays while the keys are collected. -/
structure EK (base Bd : Nat) (w wr : World) (dv : Value) (ds : List UInt8) : Prop where
  o : Only (fun j => base ≤ j) w wr
  b : BB Bd wr dv
  d : Own 5 base wr dv ds
theorem row_ne_row {base e e' size size' n n' : Nat} {w : World} {v u : Value} {xs ys : List Value} (h : w.ownsRow base e size v n xs) (k : w.ownsRow base e' size' u n' ys) (hne : e ≠ e') : ∀ j, v.ownBlock = some j → u.ownBlock ≠ some j := by
  intro j h1 h2
  rcases h.2 with ⟨rfl, _⟩ | ⟨g, cap, cur, rfl, _, hg, _⟩
  · simp [Value.ownBlock] at h1
  rcases k.2 with ⟨rfl, _⟩ | ⟨g', cap', cur', rfl, _, hg', _⟩
  · simp [Value.ownBlock] at h2
  have e1 : g = j := by simpa [Value.ownBlock] using h1
  have e2 : g' = j := by simpa [Value.ownBlock] using h2
  subst e1; subst e2
  rw [hg] at hg'
  injection hg' with hg'
  injection hg' with _ hg'
  exact hne hg'
theorem EK.grown {base Bd : Nat} {w wr w' : World} {dv : Value} {ds : List UInt8} {row : Option Nat} (h : EK base Bd w wr dv ds) (hg : wr.grownBy w' row) (hr : ∀ j, row = some j → base ≤ j) (h1 : row ≠ some Bd) (h2 : ∀ j, row = some j → dv.ownBlock ≠ some j) : EK base Bd w w' dv ds :=
  ⟨h.o.trans (Only.grown hg hr), (hg.block Bd (lt_of_block h.b) (fun e => h1 e.symm)).trans h.b, World.ownsRow.kept h.d hg (by
    rcases hv : dv.ownBlock with _ | j
    · exact .inl rfl
    · refine .inr fun e => ?_
      exact h2 j e.symm hv)⟩
theorem EK.alloc {base Bd : Nat} {w wr : World} {dv : Value} {ds : List UInt8} (h : EK base Bd w wr dv ds) (o : Obj) : EK base Bd w (wr.alloc o) dv ds := h.grown (World.grownBy_alloc wr o none) (by simp) (by simp) (by simp)
theorem EK.set {base Bd Bo : Nat} {w wr : World} {dv u : Value} {ds : List UInt8} (h : EK base Bd w wr dv ds) (hB : wr.heap[Bo]? = some (.cells #[u] 79 (0, 0))) (hb : base ≤ Bo) (v : Value) : EK base Bd w (wr.setCell ⟨Bo, 0, none⟩ v) dv ds := by
  have hne : Bd ≠ Bo := by
    rintro rfl
    have := h.b
    unfold BB at this
    rw [hB] at this
    injection this with this
    injection this with _ this
    cases this
  exact ⟨only_setAt h.o hb _ _, (heap_setCell_other _ _ Bd v hne).trans h.b, ownsRow_setCell_other h.d (row_ne_box (b := Bo) (t := 79) h.d hB (by decide)) v⟩
/-- Where the collecting stands. -/
def EC (base Bd Bo it r D : Nat) (l : List (Nat × List UInt8)) (w : World) (dv : Value) (ds : List UInt8) (wr : World) : Prop :=
  ∃ (left : Lit → Bool) (cnt : Nat) (ss : List Int) (g c : Nat), wr.ranges Tryz.prog tgK (RO w D) r it l.length (tagD l) left cnt ∧ ss.length + cnt ≤ l.length ∧ wr.heap[Bo]? = some (.cells #[.slice (some ⟨g, 0, none⟩) ss.length c] 79 (0, 0)) ∧
    wr.ownsRow base 57 1 (.slice (some ⟨g, 0, none⟩) ss.length c) ss.length (ss.map encK) ∧ CollK l left ss ∧ EK base Bd w wr dv ds
theorem own_form {base e size n : Nat} {w : World} {v : Value} {xs : List Value} (h : w.ownsRow base e size v n xs) (hn : v ≠ .slice none 0 0) : ∃ g c, v = .slice (some ⟨g, 0, none⟩) n c := by
  rcases h.2 with ⟨rfl, _⟩ | ⟨g, cap, cur, rfl, _⟩
  · exact absurd rfl hn
  · exact ⟨g, cap, rfl⟩

theorem row_keep {base e size n : Nat} {w w' : World} {v : Value} {xs : List Value} (h : w.ownsRow base e size v n xs) (hk : ∀ g, v.ownBlock = some g → w'.heap[g]? = w.heap[g]?) : w'.ownsRow base e size v n xs := by
  refine ⟨h.1, ?_⟩
  rcases h.2 with h | ⟨g, cap, cur, rfl, hg, hh, r⟩
  · exact .inl h
  · exact .inr ⟨g, cap, cur, rfl, hg, (hk g rfl).trans hh, r⟩
theorem encTags_take {l : List (Nat × List UInt8)} {k : Nat} (h : k < l.length) : encTags (l.take (k + 1)) = encTags (l.take k) ++ (uvEnc l[k].1 ++ (uvEnc l[k].2.length ++ l[k].2)) := by
  induction l generalizing k with
  | nil => simp at h
  | cons x l ih =>
    obtain ⟨j, u⟩ := x
    cases k with
    | zero => simp [encTags]
    | succ k =>
      have h' : k < l.length := by simpa using h
      have := ih h'
      simp only [List.take_succ_cons, encTags, List.getElem_cons_succ, this, List.append_assoc]
theorem encTags_le (l : List (Nat × List UInt8)) (k : Nat) : (encTags (l.take k)).length ≤ (encTags l).length := by
  induction l generalizing k with
  | nil => simp
  | cons x l ih =>
    obtain ⟨j, u⟩ := x
    cases k with
    | zero => simp [encTags]
    | succ k =>
      have := ih k
      simp only [List.take_succ_cons, encTags, List.length_append]
      omega
theorem msr (n k : Nat) (v u : Value) (hk : k < n) (hv : v = .int .i64 ((k : Int) + 1)) (hu : u = .int .i64 (k : Nat)) : n - (intOf v).toNat < n - (intOf u).toNat := by
  subst hv; subst hu
  have e : (intOf (.int .i64 ((k : Int) + 1))).toNat = k + 1 := by show ((k : Int) + 1).toNat = k + 1; omega
  have e2 : (intOf (.int .i64 (k : Nat))).toNat = k := by show ((k : Nat) : Int).toNat = k; omega
  rw [e, e2]; omega
theorem heap_alloc_old3 {w : World} {b : Nat} {o o' : Obj} (h : w.heap[b]? = some o) : (w.alloc o').heap[b]? = some o := ((MapKept.heap_alloc w o').2 b (lt_of_block h)).trans h
theorem zero_u8s (w : World) : (zeroValue 22).run Tryz.prog w = .ok (.slice none 0 0) w := by kernel_rfl
theorem look_tag {D r : Nat} {w : World} {l : List (Nat × List UInt8)} (h : w.ownsMap Tryz.prog tgK (RO w D) r l.length (tagD l)) (hu : upTags 0 l) (x : Nat × List UInt8) (hx : x ∈ l) :
    ∃ v nn, (Instr.lookup 62 (.map (some r)) (.int .u32 x.1) false).run Tryz.prog w = .ok v w ∧ Sp w D nn v x.2 := by
  have hs0 : Sp w D false (.slice none 0 0) [] := .inl ⟨rfl, rfl, rfl⟩
  obtain ⟨v, ps, h1, h2⟩ := h.lookup law_tgK Tryz.underlying62 (zero_u8s w) (RO_sp hs0) (Maps.keyOf_int_mk und_tgK (wf_u32 (upTags_lt l 0 hu x hx).1))
  rw [tagD_at l 0 hu x hx] at h2
  obtain ⟨s, nn, e, hsp⟩ := RO_inv h2
  injection e with e _
  injection e with e
  subst e
  exact ⟨v, nn, h1, hsp⟩
/-- Where the writing stands. -/
def E2 (base Bd g c : Nat) (l : List (Nat × List UInt8)) (w : World) (ds : List UInt8) (k : Nat) (wr : World) : Prop :=
  ∃ dv', EK base Bd w wr dv' (ds ++ encTags (l.take k)) ∧ wr.ownsRow base 57 1 (.slice (some ⟨g, 0, none⟩) l.length c) l.length ((keysT l).map encK)
theorem E2.step {base Bd g c k : Nat} {l : List (Nat × List UInt8)} {w wr w' : World} {ds : List UInt8} {e : Ending} (hk : k < l.length) (hrow : wr.ownsRow base 57 1 (.slice (some ⟨g, 0, none⟩) l.length c) l.length ((keysT l).map encK)) {dv : Value}
    (hek : EK base Bd w wr dv (ds ++ encTags (l.take k))) (h : OneP base Bd wr (ds ++ encTags (l.take k) ++ (uvEnc l[k].1 ++ (uvEnc l[k].2.length ++ l[k].2))) e w') : e = .returned (.tuple #[]) ∧ E2 base Bd g c l w ds (k + 1) w' := by
  obtain ⟨he, ho, hk5, dv', hb, hd⟩ := h
  refine ⟨he, dv', ⟨hek.o.trans ho, hb, ?_⟩, row_keep hrow fun g' hg' => ?_⟩
  · rw [encTags_take hk, ← List.append_assoc]; exact hd
  · have hgg : g = g' := by simpa [Value.ownBlock] using hg'
    subst hgg
    have hlt := (World.ownsRow.lt hrow g rfl).2
    refine hk5 g hlt ?_ ?_
    · intro e; exact row_ne_box (b := Bd) (t := 22) hrow hek.b (by decide) (by simp [Value.ownBlock, e])
    · intro cur hc
      rcases hrow.2 with ⟨h0, _⟩ | ⟨g', cap, cur', hv, _, hh, _⟩
      · cases h0
      · injection hv with e1 _ _
        injection e1 with e1
        injection e1 with e1
        subst e1
        rw [hh] at hc
        injection hc with hc
        injection hc with _ hc
        exact absurd hc (by decide)

set_option maxRecDepth 100000 in
set_option maxHeartbeats 1000000 in
theorem each_some {D base b off Bd r : Nat} {w : World} {dv : Value} {ds : List UInt8} {l : List (Nat × List UInt8)} (hc : w.cell? ⟨b, off, none⟩ = some (.map (some r))) (hm : MapAt w D r l) (hne : l ≠ []) (hu : upTags 0 l) (hl : l.length < 4294967296)
    (hb : BB Bd w dv) (ho : Own 5 base w dv ds) (hbb : b < base) (hrb : r < base) (hD : D < base) (hBd : base ≤ Bd) (hlim : ds.length + (encTags l).length + 16 ≤ lim2) :
    Calls Tryz.prog 78 #[.pointer (some ⟨b, off, none⟩), .func (.func 79) #[] #[.pointer (some ⟨Bd, 0, none⟩)]] w (EachP base Bd w (ds ++ encTags l)) := by
  obtain ⟨i0, hi, hz0, hz1, hz2⟩ := info_parts info_u32e
  have hown := hm.owns (P := Tryz.prog) (k := tgK) und_tgK hu (by unfold maxLen; omega)
  have hL := hown.len Tryz.underlying62 3
  rw [tagD_size] at hL
  have hn0 : ¬ ((l.length : Nat) : Int) = 0 := by have := List.length_pos_iff.2 hne; omega
  have hbl : base ≤ w.heap.size := Nat.le_trans hBd (Nat.le_of_lt (lt_of_block hb))
  have hn0' : (((l.length : Nat) : Int) == 0) = false := by simpa using hn0
  have HOWN := Lib.hid hown
  have HEK : Hid (EK base Bd w w dv ds) := Lib.hid ⟨Only.refl _ _, hb, ho⟩
  have HLIM := Lib.hid hlim
  have HU := Lib.hid hu
  have HLL := Lib.hid hl
  clear hown hb ho hlim hu hm hne
  go_enter Tryz.func78, Tryz.ntmps78
  go_wp2_with (first
    | (at_make; refine wpList_make_own _ rfl _ _ 79 rfl base 57 i0 (.int .u32 0) 1 Tryz.underlying79 hi hz0 hz1 _ _ _ l.length rfl rfl rfl (by rw [hz2]; omega) (by unfold maxLen; omega) hbl ?_; intro w1 hrow1 hg1
       have hEK1 := HEK.out.grown hg1 (by simp) (by simp) (by simp)
       have hC1 : (w1.alloc (.cells #[.slice (some ⟨w.heap.size, 0, none⟩) 0 l.length] 79)).cell? ⟨b, off, none⟩ = some (.map (some r)) := (World.cell?_of_block (w := w) (((hEK1.alloc _).o).block b (by omega) (by omega))).trans hc
       have HO1 := Lib.hid ((HOWN.out.kept hg1 (by simp)).alloc (.cells #[.slice (some ⟨w.heap.size, 0, none⟩) 0 l.length] 79))
       have HROW1 := Lib.hid (World.ownsRow.alloc hrow1 (.cells #[.slice (some ⟨w.heap.size, 0, none⟩) 0 l.length] 79))
       have HEK1 := Lib.hid (hEK1.alloc (.cells #[.slice (some ⟨w.heap.size, 0, none⟩) 0 l.length] 79))
       have HBo : Hid ((w1.alloc (.cells #[.slice (some ⟨w.heap.size, 0, none⟩) 0 l.length] 79)).heap[w1.heap.size]? = some (.cells #[.slice (some ⟨w.heap.size, 0, none⟩) 0 l.length] 79 (0, 0))) := Lib.hid (heap_alloc_new _ _)
       have HS1 := Lib.hid hg1.size
       clear hrow1 hg1 hEK1)
    | (at_range; refine wpList_range_own _ rfl _ 62 rfl tgK 22 law_tgK Tryz.underlying62 (RO w D) r l.length (tagD l) rfl HO1.out ?_; intro w2 hrg2 hg2 hs2; have HRG2 := Lib.hid hrg2; have HG2 := Lib.hid hg2; clear hrg2 hg2 hs2)
    | fail)
  have hbl1 : base ≤ w1.heap.size := Nat.le_trans hbl HS1.out
  have hitb : base ≤ (w1.alloc (.cells #[.slice (some ⟨w.heap.size, 0, none⟩) 0 l.length] 79)).heap.size := by simp; omega
  generalize (w1.alloc (.cells #[.slice (some ⟨w.heap.size, 0, none⟩) 0 l.length] 79)).heap.size = it at HRG2 hitb ⊢
  clear hC1
  go_frame
  go_loopw [] (fun wr => EC base Bd w1.heap.size it r D l w dv ds wr) (fun wr => wr.rangeLeft r it)
  case atStart =>
    have hg := HG2.out
    refine ⟨_, _, [], w.heap.size, l.length, HRG2.out, by rw [tagD_size]; simp, ?_, ?_, CollK.start l, HEK1.out.grown hg (by simp) (by simp) (by simp)⟩
    · exact (hg.block _ (by simp) (by simp)).trans HBo.out
    · exact World.ownsRow.kept HROW1.out hg (.inr (by simp [Value.ownBlock]))
  case round =>
    obtain ⟨left, cnt, ss, g, c, hrg, hcs, hbo, hrow, hC, hek⟩ := hrel
    have HRG := Lib.hid hrg
    have HBO := Lib.hid hbo
    have HROW := Lib.hid hrow
    have HC := Lib.hid hC
    have HEKr := Lib.hid hek
    have HCS := Lib.hid hcs
    have co : wr.cell? ⟨w1.heap.size, 0, none⟩ = some (.slice (some ⟨g, 0, none⟩) ss.length c) := cell_of_one hbo
    clear hrg hbo hrow hC hek hcs
    go_wp2_with (first
      | (at_next; refine wpList_next_ranges _ rfl _ rfl tgK law_tgK (RO w D) encK (fun v : Value => v) (fun key kl hk => by obtain ⟨x, hx, _⟩ := Maps.keyOf_int_inv und_tgK hk; exact ⟨x, hx⟩) (fun v y hv => ⟨v, rfl⟩) r it l.length _ _ _ rfl HRG.out ?_ ?_)
      | fail)
    · intro hc0 hl0
      have hperm := HC.out.perm HU.out hl0
      have hssl : ss.length = l.length := by have := hperm.length_eq; simpa [keysT] using this
      have hbo := HBO.out
      have hrow := HROW.out
      rw [hssl] at co hbo hrow
      have cS := Lib.hid (sort_keys HU.out hperm hbo hrow HLL.out hbl1)
      have HEKs := Lib.hid (fun (w' : World) (hg : wr.grownBy w' (some g)) => HEKr.out.grown hg (fun j e => by cases e; exact (World.ownsRow.lt hrow g rfl).1) (by intro e; exact row_ne_box (b := Bd) (t := 22) hrow HEKr.out.b (by decide) e) (fun j e => row_ne_row hrow HEKr.out.d (by decide) j e))
      clear HBO HROW HC hbo hrow hperm hssl
      go_wp2_with (go_at_call 94; refine cS.out.mono ?_; rintro e4 w4 ⟨rfl, hg4, hb4, hr4⟩; have HEK4 := Lib.hid (HEKs.out _ hg4); have co4 := cell_of_one hb4; have HR4 := Lib.hid hr4; clear hg4 hb4 hr4 cS)
      go_loopw [39] (fun v wr2 => ∃ k, k ≤ l.length ∧ v = .int .i64 (k : Nat) ∧ E2 base Bd g c l w ds k wr2) (fun v _ => l.length - (intOf v).toNat)
      case atStart => exact ⟨0, Nat.zero_le _, rfl, dv, by simpa [encTags] using HEK4.out, HR4.out⟩
      case round =>
        obtain ⟨k, hk, rfl, dv2, hek, hrow⟩ := hrel
        have HEK5 := Lib.hid hek
        have HR5 := Lib.hid hrow
        by_cases hlt : k < l.length
        · have hO := hek.o
          have cm : wr.cell? ⟨b, off, none⟩ = some (.map (some r)) := (World.cell?_of_block (w := w) (hO.block b (by omega) (by omega))).trans hc
          have hmap : wr.ownsMap Tryz.prog tgK (RO w D) r l.length (tagD l) := by
            obtain ⟨es, clock, hb, rest⟩ := HOWN.out
            exact ⟨es, clock, (hO.block r (by omega) (by omega)).trans hb, rest⟩
          rw [← RO_keep (hO.block D (by omega) (by omega))] at hmap
          obtain ⟨v, nn, hlk, hsp⟩ := look_tag hmap HU.out l[k] (List.getElem_mem hlt)
          have hck : wr.cell? ⟨g, k, none⟩ = some (.int .u32 (l[k].1 : Nat)) := by
            have := World.ownsRow.cellAt hrow k (by omega)
            rw [this]
            simp [keysT, hlt]
          have ht := upTags_lt l 0 HU.out l[k] (List.getElem_mem hlt)
          have cO := Lib.hid ((tags_one hsp hek.b hek.d ht.1 ht.2 hBd hD (by have h1 := encTags_take hlt; have h2 := encTags_le l (k + 1); rw [h1, List.length_append] at h2; have h3 := HLIM.out; simp only [List.length_append] at h2 ⊢; omega)).mono (R' := fun e w' => e = .returned (.tuple #[]) ∧ E2 base Bd g c l w ds (k + 1) w') fun e w' h => E2.step hlt hrow hek h)
          have hlt' : ((k : Int) < (l.length : Int)) := by omega
          clear hek hrow hmap hsp ht hO
          generalize l[k].1 = key at *
          go_wp2_with (go_at_call 79; refine cO.out.mono ?_; rintro e5 w5 ⟨rfl, h5⟩; have H5 := Lib.hid h5; clear h5 cO)
          go_roundw
          case rel => exact ⟨k + 1, hlt, rfl, H5.out⟩
          case measure => exact msr l.length k _ _ hlt rfl rfl
        · obtain rfl : k = l.length := by omega
          have hlt' : ¬ ((l.length : Int) < (l.length : Int)) := by omega
          clear hek hrow
          go_wp2_with fail
          refine bodyPost_end (results_none rfl _ _ _) rfl ?_
          have hE := HEK5.out
          rw [List.take_length] at hE
          exact ⟨rfl, hE.o, _, hE.b, hE.d⟩
    · intro x cv kl yd yp w3 cnt2 hkey hlk hv hat hrg2 hlt hg3 hs3 hen
      obtain ⟨x', ex, rfl, hwx⟩ := Maps.keyOf_int_inv und_tgK hkey
      cases ex
      have hrow := HROW.out
      have hbo := HBO.out
      have HRG2 := Lib.hid hrg2
      have hne1 : some it ≠ some Bd := by
        intro e
        cases e
        have h1 := HEKr.out.b
        obtain ⟨_, _, _, _, _, _, _, _, _, hit, _⟩ := HRG.out
        unfold BB at h1
        rw [hit] at h1; cases h1
      have hEK3 := HEKr.out.grown hg3 (fun j e => by cases e; exact hitb) hne1 (fun j e => by cases e; exact fun e' => (row_ne_iter HEKr.out.d HRG.out) e'.symm)
      have hrow3 := World.ownsRow.kept hrow hg3 (Or.inr (row_ne_iter hrow HRG.out).symm)
      have hne2 : w1.heap.size ≠ it := by
        intro e
        obtain ⟨_, _, _, _, _, _, _, _, _, hit, _⟩ := HRG.out
        rw [e, hit] at hbo; cases hbo
      have hbo3 := (hg3.block w1.heap.size (lt_of_block hbo) (by intro e; cases e; exact hne2 rfl)).trans hbo
      have co3 : w3.cell? ⟨w1.heap.size, 0, none⟩ = some (.slice (some ⟨g, 0, none⟩) ss.length c) := cell_of_one hbo3
      have hEK3a := hEK3.alloc (.cells #[encK x] 57)
      have hrow3a := World.ownsRow.alloc hrow3 (.cells #[encK x] 57)
      have HA3 := Lib.hid hrow3a
      have HE3 := Lib.hid hEK3a
      have HE3o := Lib.hid hEK3
      have HB3 := Lib.hid hbo3
      have HC3 := Lib.hid (HC.out.step hlk hat)
      have HX : Hid (base ≤ w3.heap.size) := Lib.hid (Nat.le_trans hbl hEK3.o.size)
      have HB4 := Lib.hid (hEK3.o)
      clear hs3 hrow hbo hEK3 hrow3 hbo3 hEK3a hrow3a hne1 hne2 hkey hlk hat hg3 hrg2 hv hwx
      go_wp2_with (first
        | (at_builtin; refine wpList_append_own _ rfl _ _ 79 rfl base 57 i0 (.int .u32 0) 1 4 Tryz.underlying79 hi hz0 hz1 hz2 rfl (by decide) _ _ _ rfl HA3.out ⟨w3.heap.size, 0, none⟩ 1 1 [encK x] rfl rfl (cell_one_new _ _ _) (by simp [Value.oneCell', encK]) ?_ ?_ ?_ ?_; (have := HCS.out; unfold maxLen; omega); (have := HCS.out; omega); (have := HX.out; simp; omega)
           intro v' w4 hown' hg4 hnil4
           have hne4 : v' ≠ .slice none 0 0 := fun e => by have := (hnil4.1 e).1; cases this
           obtain ⟨g4, c4, e4⟩ := own_form hown' hne4
           subst e4
           have hown4 : w4.ownsRow base 57 1 (.slice (some ⟨g4, 0, none⟩) (ss.length + 1) c4) (ss.length + 1) ((ss ++ [x]).map encK) := by simpa using hown'
           have HO4 := Lib.hid hown4
           have HG4 := Lib.hid hg4
           have hb4 := (hg4.block w1.heap.size (by have := lt_of_block HB3.out; simp; omega) (by intro e; exact row_ne_box (b := w1.heap.size) (t := 79) HA3.out ((heap_alloc_old3 HB3.out)) (by decide) e.symm)).trans (heap_alloc_old3 HB3.out)
           have HB5 := Lib.hid hb4
           have f4 := free_of_one hb4
           have co4 := cell_of_one hb4
           clear hown' hg4 hnil4 hne4 hown4 hb4)
        | fail)
      have hgs : w4.grownBy (w4.setCell ⟨w1.heap.size, 0, none⟩ (.slice (some ⟨g4, 0, none⟩) (ss.length + 1) c4)) (some w1.heap.size) := ⟨rfl, rfl, rfl, by simp, fun k hk hne => heap_setCell_other _ _ k _ (fun e => hne (by have e' : k = w1.heap.size := e; rw [e']))⟩
      have hrb2 : some r ≠ some w1.heap.size := by intro e; cases e; omega
      have hg3r := row_ne_low HA3.out hrb
      have hitr := row_ne_iter HA3.out (HRG2.out.alloc _)
      have hrg4 := (HRG2.out.alloc (.cells #[encK x] 57)).kept HG4.out hg3r hitr
      have hiB : some it ≠ some w1.heap.size := by
        intro e
        cases e
        obtain ⟨_, _, _, _, _, _, _, _, _, hit, _⟩ := hrg4
        have := HB5.out
        rw [hit] at this; cases this
      have hrg5 := hrg4.kept hgs hrb2 hiB
      have hek4 := HE3.out.grown HG4.out (fun j e => (World.ownsRow.lt HA3.out j e).1) (by intro e; exact row_ne_box (b := Bd) (t := 22) HA3.out HE3.out.b (by decide) e) (fun j e => row_ne_row HA3.out HE3.out.d (by decide) j e)
      go_roundw
      case rel =>
        refine ⟨_, cnt2, ss ++ [x], g4, c4, hrg5, by have := HCS.out; simp; omega, ?_, ?_, HC3.out, hek4.set HB5.out hbl1 _⟩
        · rw [List.length_append]; exact one_setCell HB5.out
        · rw [List.length_append]; exact ownsRow_setCell_other HO4.out (row_ne_box (b := w1.heap.size) (t := 79) HO4.out HB5.out (by decide)) _
      case measure => rw [hrg5.left_eq, HRG.out.left_eq]; exact hlt

/-- All tags, whatever their variable holds. -/
theorem each_calls {D base b off lo hi Bd : Nat} {w : World} {dv : Value} {ds : List UInt8} {cs : List Value} {l : List (Nat × List UInt8)} (hc : Cells w b off cs) (hx : LTags D w lo hi cs (.tags l)) (hu : upTags 0 l) (hl : l.length < 4294967296)
    (hb : BB Bd w dv) (ho : Own 5 base w dv ds) (hbb : b < base) (hhi : hi ≤ base) (hD : D < base) (hBd : base ≤ Bd) (hlim : ds.length + (encTags l).length + 16 ≤ lim2) :
    Calls Tryz.prog 78 #[.pointer (some ⟨b, off, none⟩), .func (.func 79) #[] #[.pointer (some ⟨Bd, 0, none⟩)]] w (EachP base Bd w (ds ++ encTags l)) := by
  obtain ⟨l', hl', h⟩ := hx
  cases hl'
  rcases h with ⟨rfl, rfl⟩ | ⟨r, rfl, _, hr, hm⟩
  · have := each_none (base := base) (Bd := Bd) (fv := .func (.func 79) #[] #[.pointer (some ⟨Bd, 0, none⟩)]) (hc 0 _ rfl) hb ho
    simpa [encTags] using this
  · by_cases hne : l = []
    · subst hne
      have := each_empty (base := base) (Bd := Bd) (fv := .func (.func 79) #[] #[.pointer (some ⟨Bd, 0, none⟩)]) (hc 0 _ rfl) hm hb ho
      simpa [encTags] using this
    · exact each_some (hc 0 _ rfl) hm hne hu hl hb ho hbb (by omega) hD hBd hlim

theorem app_each_run {D base b off lo hi : Nat} {w : World} {dst : Value} {ds : List UInt8} {cs : List Value} {l : List (Nat × List UInt8)} (ho : Own 5 base w dst ds) (hc : Cells w b off cs) (hx : LTags D w lo hi cs (.tags l)) (hu : upTags 0 l) (hl : l.length < 4294967296)
    (hbb : b < base) (hhi : hi ≤ base) (hD : D < base) (hbw : base ≤ w.heap.size) (hlim : ds.length + (encTags l).length + 16 ≤ lim2) :
    Calls Tryz.prog 50 #[.pointer (some ⟨b, off, none⟩), dst] w fun e w' => ∃ v, e = .returned v ∧ (Own 5 base w' v (ds ++ encTags l) ∧ Only (fun j => base ≤ j) w w') := by
  obtain ⟨A, n, c, rfl⟩ := own_sl ho
  have hD0 : ∀ k, k < w.heap.size → (w.alloc (.cells #[.slice A n c] 22)).heap[k]? = w.heap[k]? := fun k hk => (MapKept.heap_alloc w _).2 k hk
  have cE := Lib.hid (each_calls (Bd := w.heap.size) (w := w.alloc (.cells #[.slice A n c] 22)) (fun j v hj => (World.cell?_of_block (w := w) (hD0 b (by omega))).trans (hc j v hj))
    (RK.leaf_keep (k := .tags) hx (hD0 D (by omega)) (fun k _ h2 => hD0 k (by omega))) hu hl (heap_alloc_new _ _) (World.ownsRow.alloc ho _) hbb hhi hD hbw hlim)
  clear ho hc hx hu hl hD0 hlim
  generalize ds ++ encTags l = out at *
  go_enter Tryz.func50, Tryz.ntmps50
  go_wp2_with (go_at_call 78; refine cE.out.mono ?_; rintro e1 w1 ⟨rfl, ho1, dv1, hb1, hd1⟩; have c1 := cell_of_one hb1; have HO := Lib.hid ho1; have HD1 := Lib.hid hd1; clear ho1 hd1 hb1 cE)
  go_ret
  exact ⟨_, rfl, HD1.out, ((Only.refl _ _).alloc _).trans HO.out⟩
theorem tags_each : TEachC Tryz.prog 5 50 true :=
  ⟨⟨_, Tryz.func50, rfl, rfl⟩, fun D base w dst ds b off lo hi cs l ho hc hx hu hl hbb hhi _ hD hbw hlim => app_each_run ho hc hx hu hl hbb hhi hD hbw hlim⟩
end Go.Proofs.YtpefipjgcpchaaaGreatDoorR.Kf
