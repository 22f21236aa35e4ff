/- Tags are read. -/
import Derived.Test.YtpefipjgcpchaaaGreatDoorRTagB
import Derived.Test.YtpefipjgcpchaaaGreatDoorRKbU
import Derived.Test.YtpefipjgcpchaaaGreatDoorRKbC
namespace Go.Proofs.YtpefipjgcpchaaaGreatDoorR.Kf
set_option linter.unusedVariables false
set_option linter.unusedSimpArgs false
open Go Go.RowKit

def uvR (bs : List UInt8) (bad : Bool) (x : Nat) (bs1 : List UInt8) (bad1 : Bool) : Prop :=
  (bad = false ∧ uvDec bs = some (x, bs1) ∧ bad1 = false) ∨ ((bad = true ∨ uvDec bs = none) ∧ x = 0 ∧ bs1 = [] ∧ bad1 = true)
theorem uvrP_one {D rb : Nat} {w w' : World} {bs : List UInt8} {bad : Bool} {e : Ending} (h : UvrP D rb w bs bad e w') :
    ∃ (x : Nat) (nn1 : Bool) (bs1 : List UInt8) (bad1 : Bool), e = .returned (.int .u32 x) ∧ x < 4294967296 ∧ Only (· = rb) w w' ∧ Rd D rb w' nn1 bs1 bad1 ∧ bs1.length ≤ bs.length ∧ uvR bs bad x bs1 bad1 := by
  obtain ⟨x, he, hx, ho, h | h⟩ := h
  · obtain ⟨hb, r, hu, hl, hr⟩ := h
    exact ⟨x, true, r, false, he, hx, ho, hr, by omega, .inl ⟨hb, hu, rfl⟩⟩
  · obtain ⟨hx0, hb, hr⟩ := h
    exact ⟨x, false, [], true, he, hx, ho, hr, by simp, .inr ⟨hb, hx0, rfl, rfl⟩⟩

/-- How far the reading of tags has come. -/
def TgJ (N : Nat) (bs1 : List UInt8) (bad1 : Bool) (i : Nat) (acc : List (Nat × List UInt8)) (bs' : List UInt8) (bad' : Bool) : Prop :=
  (bad' = false ∧ bad1 = false ∧ decTags N [] bs1 = decTags i acc bs') ∨ (bad' = true ∧ bs' = [] ∧ (bad1 = true ∨ decTags N [] bs1 = none))
theorem tgJ_step {N : Nat} {bs1 : List UInt8} {bad1 : Bool} {i : Nat} {acc : List (Nat × List UInt8)} {bs' bs2 bs3 bs4 s : List UInt8} {bad' bad2 bad3 bad4 nn nnv : Bool} {k m : Nat}
    (h : TgJ N bs1 bad1 (i + 1) acc bs' bad') (h1 : uvR bs' bad' k bs2 bad2) (h2 : uvR bs2 bad2 m bs3 bad3) (h3 : spanR bs3 bad3 nn (m : Int) s nnv bs4 bad4) : TgJ N bs1 bad1 i (tset k s acc) bs4 bad4 := by
  rcases h with ⟨rfl, rfl, h⟩ | ⟨rfl, rfl, h⟩
  · rcases h1 with ⟨_, u1, rfl⟩ | ⟨u1, rfl, rfl, rfl⟩
    · rcases h2 with ⟨_, u2, rfl⟩ | ⟨u2, rfl, rfl, rfl⟩
      · rcases h3 with ⟨a1, a2, a3, a4, a5, a6⟩ | ⟨a1, a2, a3, a4, a5⟩
        · refine .inl ⟨a5, rfl, ?_⟩
          rw [h, a3, a4]
          simp only [decTags, u1, u2]
          rw [if_neg (by omega)]
          simp
        · refine .inr ⟨a4, a3, .inr ?_⟩
          rw [h]
          simp only [decTags, u1, u2]
          rw [if_pos (by omega)]
      · have u2' : uvDec bs2 = none := by rcases u2 with u2 | u2; cases u2; exact u2
        rcases h3 with ⟨a1, a2, a3, a4, a5, a6⟩ | ⟨a1, a2, a3, a4, a5⟩
        · refine .inr ⟨a5, by rw [a4]; rfl, .inr ?_⟩
          rw [h]
          simp only [decTags, u1, u2']
        · simp at a1
    · have u1' : uvDec bs' = none := by rcases u1 with u1 | u1; cases u1; exact u1
      have hn : decTags N [] bs1 = none := by rw [h]; simp only [decTags, u1']
      rcases h2 with ⟨u2, _, _⟩ | ⟨u2, rfl, rfl, rfl⟩
      · cases u2
      · rcases h3 with ⟨a1, a2, a3, a4, a5, a6⟩ | ⟨a1, a2, a3, a4, a5⟩
        · exact .inr ⟨a5, by rw [a4]; rfl, .inr hn⟩
        · simp at a1
  · rcases h1 with ⟨u1, _, _⟩ | ⟨u1, rfl, rfl, rfl⟩
    · cases u1
    rcases h2 with ⟨u2, _, _⟩ | ⟨u2, rfl, rfl, rfl⟩
    · cases u2
    rcases h3 with ⟨a1, a2, a3, a4, a5, a6⟩ | ⟨a1, a2, a3, a4, a5⟩
    · exact .inr ⟨a5, by rw [a4]; rfl, h⟩
    · simp at a1
theorem span_len {bs s bs2 : List UInt8} {bad nn nnv bad2 : Bool} {m : Nat} (hm : m < 4294967296) (h : spanR bs bad nn (m : Int) s nnv bs2 bad2) : s.length < 4294967296 := by
  rcases h with ⟨a1, a2, a3, a4, a5, a6⟩ | ⟨a1, a2, a3, a4, a5⟩
  · rw [a3]; simp; omega
  · rw [a2]; simp

theorem only_low {rb B : Nat} {w0 w w' : World} (h0 : Only (· = rb) w0 w) (h : Only (fun j => B ≤ j) w w') (hB : w0.heap.size ≤ B) : Only (· = rb) w0 w' :=
  ⟨h.os.trans h0.os, h.tape.trans h0.tape, h.output.trans h0.output, Nat.le_trans h0.size h.size, fun k hk hS => (h.block k (Nat.lt_of_lt_of_le hk h0.size) (by omega)).trans (h0.block k hk hS)⟩
/-- Where the loop of internalReadTags stands. -/
def RtR (D rb : Nat) (w : World) (bs bs1 : List UInt8) (bad1 : Bool) (N : Nat) (v : Value) (wr : World) : Prop :=
  ∃ (i : Nat) (acc : List (Nat × List UInt8)) (bs' : List UInt8) (bad' nn' : Bool) (tv : Value), v = .int .u32 i ∧ i ≤ N ∧ Only (· = rb) w wr ∧ TB w.heap.size wr (.map none) ∧ TB (w.heap.size + 1) wr tv ∧
    TagsV Tryz.prog tgK wr D (w.heap.size + 1) (N - i) acc tv ∧ upTags 0 acc ∧ Rd D rb wr nn' bs' bad' ∧ bs'.length ≤ bs.length ∧ TgJ N bs1 bad1 i acc bs' bad'

def RtP (D rb : Nat) (w : World) (bs : List UInt8) (bad : Bool) (e : Ending) (w' : World) : Prop :=
  ∃ v, e = .returned v ∧ (v.cells.size = RK.tags.n ∧ (∀ c ∈ v.cells.toList, c.oneCell' = true) ∧ Only (· = rb) w w' ∧ Comes1 D rb bs bad w' RK.tags.dec (fun x => RK.tags.leaf D w' w.heap.size w'.heap.size v.cells.toList x))
theorem rt_done {D rb : Nat} {w wr w' : World} {bs bs1 : List UInt8} {bad bad1 : Bool} {N x : Nat} {acc : List (Nat × List UInt8)} {bs' : List UInt8} {bad' nn' : Bool} {tv : Value} (hD : D < w.heap.size) (hrb : rb < w.heap.size) (h1 : uvR bs bad N bs1 bad1) (ho : Only (· = rb) w wr)
    (hT : TagsV Tryz.prog tgK wr D (w.heap.size + 1) x acc tv) (hr : Rd D rb wr nn' bs' bad') (hl : bs'.length ≤ bs.length) (hJ : TgJ N bs1 bad1 0 acc bs' bad') (hw' : w' = wr.setCell ⟨w.heap.size, 0, none⟩ tv) :
    RtP D rb w bs bad (.returned (.agg #[tv])) w' := by
  have hDr : D ≠ w.heap.size := by omega
  have hsz := ho.size
  have hO : Only (· = rb) w w' := by
    rw [hw']
    refine ⟨ho.os, ho.tape, ho.output, by simpa using ho.size, fun k hk hS => (heap_setCell_other _ _ k tv (by show k ≠ w.heap.size; omega)).trans (ho.block k hk hS)⟩
  have hk : ∀ k, k ≠ w.heap.size → w'.heap[k]? = wr.heap[k]? := fun k hk => by rw [hw']; exact heap_setCell_other _ _ k tv hk
  have hT' : TagsV Tryz.prog tgK w' D (w.heap.size + 1) x acc tv := hT.keep (hk D hDr) (fun r hr _ => hk r (by omega))
  have hr' : Rd D rb w' nn' bs' bad' := hr.keep (hk D hDr) (hk rb (by omega))
  refine ⟨_, rfl, rfl, ?_, hO, ?_⟩
  · intro c hc
    have : c = tv := by simpa [Value.cells] using hc
    rw [this]; exact hT.cell.1
  · rcases hJ with ⟨rfl, rfl, h⟩ | ⟨rfl, rfl, h⟩
    · rcases h1 with ⟨rfl, u, _⟩ | ⟨_, _, _, h1⟩
      · refine .inl ⟨rfl, .tags acc, bs', ?_, hl, ?_, nn', hr'⟩
        · simp only [RK.dec, RK.m, M.w, dec, u, h, decTags]
        · show LTags D w' w.heap.size w'.heap.size [tv] (.tags acc)
          obtain ⟨l, e, h⟩ := hT'.leaf und_tgK
          refine ⟨l, e, ?_⟩
          rcases h with h | ⟨r, a1, a2, a3, a4⟩
          · exact .inl h
          · exact .inr ⟨r, a1, by omega, a3, a4⟩
      · cases h1
    · refine .inr ⟨?_, hr'.nil⟩
      rcases h1 with ⟨rfl, u, rfl⟩ | ⟨u, _⟩
      · rcases h with h | h
        · cases h
        · refine .inr ?_
          simp only [RK.dec, RK.m, M.w, dec, u, h]
      · rcases u with u | u
        · exact .inl u
        · refine .inr ?_
          simp only [RK.dec, RK.m, M.w, dec, u]

set_option maxRecDepth 100000 in
theorem rt_calls {D rb : Nat} {w : World} {nn bad : Bool} {bs : List UInt8} (hR : Rd D rb w nn bs bad) (hl : bs.length ≤ lim) : Calls Tryz.prog 87 #[.pointer (some ⟨rb, 0, none⟩)] w (RtP D rb w bs bad) := by
  have hrb := hR.lt
  have hDrb : D < rb := by obtain ⟨_, _, _, _, h, _⟩ := hR; exact h
  have HR : Hid (Rd D rb ((w.alloc (.cells #[.map none] 64)).alloc (.cells #[.map none] 64)) nn bs bad) :=
    Lib.hid (hR.keep (by rw [(MapKept.heap_alloc _ _).2 D (by simp; omega), (MapKept.heap_alloc _ _).2 D (by omega)]) (by rw [(MapKept.heap_alloc _ _).2 rb (by simp; omega), (MapKept.heap_alloc _ _).2 rb (by omega)]))
  have cU := Lib.hid (fun (w1 : World) (nn1 : Bool) (bs1 : List UInt8) (bad1 : Bool) (h : Rd D rb w1 nn1 bs1 bad1) (hl1 : bs1.length ≤ bs.length) => (rd_uvarint.2 D rb w1 nn1 bs1 bad1 h (by omega)).mono (R' := fun e w' => ∃ (x : Nat) (nn2 : Bool) (bs2 : List UInt8) (bad2 : Bool), e = .returned (.int .u32 x) ∧ x < 4294967296 ∧ Only (· = rb) w1 w' ∧ Rd D rb w' nn2 bs2 bad2 ∧ bs2.length ≤ bs1.length ∧ uvR bs1 bad1 x bs2 bad2) fun e w' h => uvrP_one h)
  have cS := Lib.hid (fun (w1 : World) (nn1 : Bool) (bs1 : List UInt8) (bad1 : Bool) (m : Nat) (hm : m < 4294967296) (h : Rd D rb w1 nn1 bs1 bad1) (hl1 : bs1.length ≤ bs.length) => (by rw [show wrap64 (m : Int) = (m : Int) by unfold wrap64; omega]; exact rd_span.2 D rb w1 nn1 bs1 bad1 (m : Int) h (by omega) (by omega) (by omega) : Calls Tryz.prog 69 #[.pointer (some ⟨rb, 0, none⟩), .int .i64 (wrap64 (m : Int))] w1 (SpanP D rb w1 nn1 bs1 bad1 (m : Int))).mono (R' := fun e w' => ∃ (v : Value) (nnv : Bool) (s : List UInt8) (nn2 : Bool) (bs2 : List UInt8) (bad2 : Bool), e = .returned v ∧ Only (· = rb) w1 w' ∧ Rd D rb w' nn2 bs2 bad2 ∧ bs2.length ≤ bs1.length ∧ Sp w' D nnv v s ∧ spanR bs1 bad1 nn1 (m : Int) s nnv bs2 bad2) fun e w' h => h.uni)
  clear hR hl
  have HD := Lib.hid hDrb
  have HRB := Lib.hid hrb
  clear hrb hDrb
  go_enter Tryz.func87, Tryz.ntmps87
  go_wp2_with (go_at_call 67; refine (cU.out _ _ _ _ HR.out (Nat.le_refl _)).mono ?_; rintro e1 w1 ⟨N, nn1, bs1, bad1, rfl, hN, ho1, hr1, hl1, hu1⟩; have HN := Lib.hid hN; have HO1 := Lib.hid ho1; have HR1 := Lib.hid hr1; have HL1 := Lib.hid hl1; have HU1 := Lib.hid hu1; clear hN ho1 hr1 hl1 hu1)
  go_loopw [4] (fun v wr => RtR D rb w bs bs1 bad1 N v wr) (fun v _ => (intOf v).toNat)
  case atStart =>
    have ho := HO1.out
    have hs2 : ((w.alloc (.cells #[.map none] 64)).alloc (.cells #[.map none] 64)).heap.size = w.heap.size + 2 := by simp
    have hrb := HRB.out
    refine ⟨N, [], bs1, bad1, nn1, .map none, rfl, Nat.le_refl _, ?_, ?_, ?_, .inl ⟨rfl, rfl⟩, trivial, HR1.out, HL1.out, ?_⟩
    · exact (((Only.refl _ _).alloc _).alloc _ : Only (· = rb) w _).trans ho
    · refine TB.keep (w := (w.alloc (.cells #[.map none] 64)).alloc (.cells #[.map none] 64)) ?_ (ho.block _ (by omega) (by show ¬ w.heap.size = rb; omega))
      refine TB.keep (w := w.alloc (.cells #[.map none] 64)) (heap_alloc_new _ _) ((MapKept.heap_alloc _ _).2 _ (by simp))
    · refine TB.keep (w := (w.alloc (.cells #[.map none] 64)).alloc (.cells #[.map none] 64)) ?_ (ho.block _ (by omega) (by show ¬ w.heap.size + 1 = rb; omega))
      have := heap_alloc_new (w.alloc (.cells #[.map none] 64)) (.cells #[.map none] 64)
      have e : (w.alloc (.cells #[.map none] 64)).heap.size = w.heap.size + 1 := by simp
      rw [e] at this; exact this
    · rcases HU1.out with ⟨_, _, rfl⟩ | ⟨h, rfl, rfl, rfl⟩
      · exact .inl ⟨rfl, rfl, rfl⟩
      · exact .inr ⟨rfl, rfl, .inl rfl⟩
  case round =>
    obtain ⟨i, acc, bs', bad', nn', tv, rfl, hi, ho, hb0, hb1, hT, hup, hr, hlb, hJ⟩ := hrel
    by_cases hi0 : i = 0
    · subst hi0
      have cb := hb1.cell
      have c0 := hb0.cell
      have f0 := hb0.froz
      have k1 := hT.cell.1
      have HT := Lib.hid hT
      have HB0 := Lib.hid hb0
      have HB1 := Lib.hid hb1
      have HR2 := Lib.hid hr
      have HJ := Lib.hid hJ
      have HO := Lib.hid ho
      clear hT hb0 hb1 hr hJ ho hi hup
      have hst : Sem.run Tryz.prog (store ⟨w.heap.size, 0, none⟩ tv) wr = .ok () (wr.setCell ⟨w.heap.size, 0, none⟩ tv) := by rw [run_store _ _ _ _ .plain k1]; simp [c0, f0]
      go_wp2_with fail
      refine bodyPost_ret (results_cell_row Tryz.results87 _ _ w.heap.size _ _ _ _ rfl (heap_setCell_same _ _ 0 _ _ _ HB0.out) Tryz.underlying64 rfl (by kernel_rfl)) rfl ?_
      exact rt_done (Nat.lt_trans HD.out HRB.out) HRB.out HU1.out HO.out HT.out HR2.out hlb HJ.out rfl
    · obtain ⟨j, rfl⟩ : ∃ j, i = j + 1 := ⟨i - 1, by omega⟩
      have cb := hb1.cell
      have HT := Lib.hid hT
      have HB0 := Lib.hid hb0
      have HB1 := Lib.hid hb1
      have HR2 := Lib.hid hr
      have HJ := Lib.hid hJ
      have HO := Lib.hid ho
      have HUP := Lib.hid hup
      have HL := Lib.hid hlb
      have HI := Lib.hid hi
      have hgt : ((j : Int) + 1 > 0) := by omega
      have hsz := ho.size
      have hDrb := HD.out
      have hrb := HRB.out
      have hNN := HN.out
      have cT := Lib.hid (fun (w4 : World) (k : Nat) (nnv : Bool) (s : List UInt8) (v : Value) (hk : k < 4294967296) (hs : Sp w4 D nnv v s) (O : Only (· = rb) wr w4) =>
        tags_set (b := w.heap.size + 1) (n := N - (j + 1)) hs (hb1.keep (O.block _ hb1.lt (by show ¬ w.heap.size + 1 = rb; omega))) (hT.keep (O.block D (by omega) (by show ¬ D = rb; omega)) (fun r hr e => O.block r (by rcases hT with ⟨h, _⟩ | ⟨r', h1, h2, h3⟩; (rw [h] at e; cases e); (rw [h1] at e; cases e; exact h3.lt)) (by show ¬ r = rb; omega))) hup hk (Nat.le_refl _) (by omega) (by unfold maxLen; omega))
      have hw32 : IntKind.u32.wrap ((j : Int) + 1 - 1) = (j : Int) := by rw [IntKind.wrap_u32]; omega
      clear hT hb0 hb1 hr hJ ho hup hlb hi0 hsz hDrb hrb hNN
      go_wp2_with (first
        | (go_at_call 67; refine (cU.out _ _ _ _ HR2.out HL.out).mono ?_; rintro e2 w2 ⟨k, nn2, bs2, bad2, rfl, hk, ho2, hr2, hl2, hu2⟩; have HK := Lib.hid hk; have HO2 := Lib.hid ho2; have HR3 := Lib.hid hr2; have HL2 := Lib.hid (Nat.le_trans hl2 HL.out); have HU2 := Lib.hid hu2; clear hk ho2 hr2 hl2 hu2 HR2)
        | (go_at_call 67; refine (cU.out _ _ _ _ HR3.out HL2.out).mono ?_; rintro e3 w3 ⟨m, nn3, bs3, bad3, rfl, hm, ho3, hr3, hl3, hu3⟩; have HM := Lib.hid hm; have HO3 := Lib.hid ho3; have HR4 := Lib.hid hr3; have HL3 := Lib.hid (Nat.le_trans hl3 HL2.out); have HU3 := Lib.hid hu3; clear hm ho3 hr3 hl3 hu3 HR3)
        | (go_at_call 69; refine (cS.out _ _ _ _ _ HM.out HR4.out HL3.out).mono ?_; rintro e4 w4 ⟨v4, nnv, s4, nn4, bs4, bad4, rfl, ho4, hr4, hl4, hs4, hj4⟩; have HO4 := Lib.hid ho4; have HR5 := Lib.hid hr4; have HL4 := Lib.hid (Nat.le_trans hl4 HL3.out); have HS4 := Lib.hid hs4; have HJ4 := Lib.hid hj4; clear ho4 hr4 hl4 hs4 hj4 HR4)
        | (go_at_call 68; refine (cT.out _ _ _ _ _ HK.out HS4.out (HO2.out.trans (HO3.out.trans HO4.out))).mono ?_; rintro e5 w5 ⟨rfl, ho5, tv5, hb5, ht5⟩; have HO5 := Lib.hid ho5; have HB5 := Lib.hid hb5; have HT5 := Lib.hid ht5; clear ho5 hb5 ht5 cT)
        | fail)
      go_roundw
      case rel =>
        have hsz := HO.out.size
        have hDrb := HD.out
        have hrb := HRB.out
        have o24 : Only (· = rb) wr w4 := HO2.out.trans (HO3.out.trans HO4.out)
        have h5 := HO5.out
        have hs4 := o24.size
        refine ⟨j, tset k s4 acc, bs4, bad4, nn4, tv5, ?_, by omega, ?_, ?_, HB5.out, ?_, ?_, ?_, HL4.out, tgJ_step HJ.out HU2.out HU3.out HJ4.out⟩
        · have hNN := HN.out
          simp; omega
        · exact only_low (HO.out.trans o24) h5 (by omega)
        · exact HB0.out.keep ((h5.block _ (by have := HB0.out.lt; omega) (by omega)).trans (o24.block _ HB0.out.lt (by show ¬ w.heap.size = rb; omega)))
        · have := HT5.out; rwa [show N - (j + 1) + 1 = N - j by omega] at this
        · exact upTags_mono (by omega) (upTags_tset k s4 HK.out (span_len HM.out HJ4.out) acc 0 HUP.out)
        · exact HR5.out.keep (h5.block D (by omega) (by omega)) (h5.block rb (by omega) (by omega))
      case measure => simp [intOf]; omega

theorem rd_tags : RdC Tryz.prog 87 .tags :=
  ⟨⟨_, Tryz.func87, rfl, rfl⟩, fun D rb w nn bs bad hR hl => rt_calls hR hl⟩
end Go.Proofs.YtpefipjgcpchaaaGreatDoorR.Kf
