/- Sixteen octets in a row: read, written. -/
import Derived.Test.YtpefipjgcpchaaaGreatDoorRKbC
import Derived.Test.YtpefipjgcpchaaaGreatDoorRKbE
import Derived.Test.YtpefipjgcpchaaaGreatDoorRKbG
import Derived.Test.YtpefipjgcpchaaaGreatDoorRKbL
import Derived.Deep.RegionHeld3
import Derived.Deep.MidRow
import Derived.Laws.Rows
import Derived.Laws.CopyOwn
import Derived.Lib.Hide
namespace Go.Proofs.YtpefipjgcpchaaaGreatDoorR.Kf
set_option linter.unusedVariables false
set_option linter.unusedSimpArgs false
open Go Go.RowKit

theorem arr16 : (Tryz.prog.info? 82).map (·.size) = some 16 := by kernel_rfl
theorem u8one : (Tryz.prog.info? 5).map (·.size) = some 1 := by kernel_rfl
def z16 : List Value := List.replicate 16 (.int .u8 0)
theorem SpanP.u16 {D rb : Nat} {w w0 w1 : World} {nn bad : Bool} {bs : List UInt8} {e : Ending} (h : SpanP D rb w nn bs bad 16 e w1) (hr : Rd D rb w0 nn bs bad) :
    ∃ (A : Option Addr) (c : Nat) (s : List UInt8), e = .returned (.slice A s.length c) ∧ Only (· = rb) w w1 ∧ (s.length = 16 ∨ s = []) ∧ (0 < s.length → ∃ ad, A = some ad ∧ ∀ j b, s[j]? = some b → w1.cell? (ad.add j) = some (u8v b)) ∧
      ((bad = false ∧ 16 ≤ bs.length ∧ s = bs.take 16 ∧ Rd D rb w1 nn (bs.drop 16) false) ∨ (bs.length < 16 ∧ s = [] ∧ Rd D rb w1 false [] true)) := by
  obtain ⟨v, rfl, ho, h⟩ := h
  obtain ⟨sv, e, _, hs, _, hbad⟩ := hr
  rcases h with ⟨_, h1, h2, h3⟩ | ⟨h1, rfl, h3⟩
  · have h1' : 16 ≤ bs.length := by omega
    have hb : bad = false := by
      cases bad
      · rfl
      · have hn := hbad rfl
        rcases hs with ⟨_, _, h0⟩ | ⟨h0, _⟩
        · rw [h0] at h1'; simp at h1'
        · rw [hn] at h0; cases h0
    subst hb
    have e16 : (16 : Int).toNat = 16 := rfl
    rw [e16] at h2 h3
    have hl : (bs.take 16).length = 16 := by simp; omega
    rcases h2 with ⟨_, _, h0⟩ | ⟨_, o, c, rfl, hc, hcell⟩
    · rw [h0] at hl; simp at hl
    · exact ⟨_, c, bs.take 16, rfl, ho, .inl hl, fun _ => ⟨_, rfl, fun j b hj => by rw [Addr.add_lit]; exact hcell j b hj⟩, .inl ⟨rfl, h1', rfl, h3⟩⟩
  · exact ⟨Option.none, 0, [], rfl, ho, .inr rfl, fun h => by simp at h, .inr ⟨by omega, rfl, h3⟩⟩
theorem RdP.uuid {D rb : Nat} {w w3 w5 : World} {bs s : List UInt8} {bad nn : Bool} (hD : D < rb) (ho : Only (· = rb) w w5) (hD5 : w5.heap[D]? = w3.heap[D]?) (hr5 : w5.heap[rb]? = w3.heap[rb]?) (hs : s.length = 16 ∨ s = [])
    (h : (bad = false ∧ 16 ≤ bs.length ∧ s = bs.take 16 ∧ Rd D rb w3 nn (bs.drop 16) false) ∨ (bs.length < 16 ∧ s = [] ∧ Rd D rb w3 false [] true)) :
    RdP D rb (.prim .uuid) w bs bad (.returned (.agg (splice z16 0 (s.map u8v)).toArray)) w5 := by
  have hl : (splice z16 0 (s.map u8v)).length = 16 := by
    rw [length_splice _ _ _ (by rcases hs with h | h <;> simp [z16, h])]; rfl
  refine ⟨_, rfl, ?_, ?_, ho, ?_⟩
  · show (splice z16 0 (s.map u8v)).toArray.size = 16
    simpa using hl
  · intro c hc
    have hc' : c ∈ splice z16 0 (s.map u8v) := by simpa [Value.cells] using hc
    unfold splice at hc'
    simp only [List.take_zero, List.nil_append, List.mem_append] at hc'
    rcases hc' with h | h
    · simp only [List.mem_map] at h; obtain ⟨b, _, rfl⟩ := h; rfl
    · have := List.mem_of_mem_drop h; rw [z16, List.mem_replicate] at this; rw [this.2]; rfl
  · rcases h with ⟨hb, h1, h2, h3⟩ | ⟨h1, h2, h3⟩
    · refine .inl ⟨hb, .bytes (some (bs.take 16)), bs.drop 16, ?_, by simp, ?_, nn, h3.keep hD5 hr5⟩
      · simp only [RK.dec, RK.m, M.w, dec, primDec, Prim.n]
        rw [if_neg (by omega)]; rfl
      · have hl2 : s.length = 16 := by rw [h2]; simp; omega
        refine .inr ⟨rfl, s, hl2, by rw [h2], ?_⟩
        show (splice z16 0 (s.map u8v)).toArray.toList = s.map u8v
        simp [splice, z16, hl2]
    · refine .inr ⟨.inr ?_, h3.keep hD5 hr5⟩
      simp only [RK.dec, RK.m, M.w, dec, primDec, Prim.n]
      rw [if_pos h1]

set_option maxRecDepth 100000 in
theorem rd_uuid : RdC Tryz.prog 74 (.prim .uuid) := by
  refine rdC (plain_f' Tryz.func74 rfl rfl) fun D rb w nn bs bad h hl => ?_
  have hrb : rb < w.heap.size := by obtain ⟨_, _, hb, _⟩ := h; exact RB.lt hb
  have hD : D < rb := by obtain ⟨_, _, _, _, h, _⟩ := h; exact h
  go_enter Tryz.func74, Tryz.ntmps74
  go_wp2_with fail
  obtain ⟨w2, hw2⟩ : ∃ w2, (w.alloc (.cells z16.toArray 82)).alloc (.cells z16.toArray 82) = w2 := ⟨_, rfl⟩
  have g1 : w2.heap[w.heap.size + 1]? = some (.cells z16.toArray 82 (0, 0)) := by rw [← hw2]; exact heap_alloc2_new _ _ _
  have g0 : w2.heap[w.heap.size]? = some (.cells z16.toArray 82 (0, 0)) := by rw [← hw2, heap_alloc_old _ _ (by simp)]; exact heap_alloc_new _ _
  have O2 : Only (· = rb) w w2 := by rw [← hw2]; exact ((Only.refl _ w).alloc _).alloc _
  have hsz : w2.heap.size = w.heap.size + 2 := by rw [← hw2]; simp
  have HRD : Hid (∀ w', w'.heap = w2.heap → Rd D rb w' nn bs bad) := Lib.hid fun w' hw => h.keep (by rw [hw, ← hw2, heap_alloc_old _ _ (by simp; omega), heap_alloc_old _ _ (by omega)]) (by rw [hw, ← hw2, heap_alloc_old _ _ (by simp; omega), heap_alloc_old _ _ (by omega)])
  have HR0 := Lib.hid h
  have HL := Lib.hid hl
  have HO2 := Lib.hid O2
  have HG1 := Lib.hid g1
  have HG0 := Lib.hid g0
  have HSZ := Lib.hid hsz
  have HRB := Lib.hid hrb
  have HD := Lib.hid hD
  change Code.wp _ _ _ _ ((w.alloc (.cells z16.toArray 82)).alloc (.cells z16.toArray 82))
  rw [hw2]
  clear hw2 g1 g0 O2 hsz h hl hrb hD
  go_region_held3 (fun _ => True) (exact trivial)
    (first
      | (refine step_copy_splice rfl (.tmp 4) (.tmp 6) 22 22 rfl 5 Tryz.underlying22 u8one _ _ _ _ _ _ rfl rfl (w.heap.size + 1) 0 z16 82 HGG.out (s.map u8v) HNN.out HPP.out HFF.out HHH.out (w.heap.size + 1) _ (Below.refl _ _) (Nat.le_refl _) ?_; intro w4 hg4 hb4; have HB4 := Lib.hid hb4; clear hb4)
      | (go_at_call 69; refine (rd_span.2 D rb w2.drew nn bs bad 16 (HRD.out w2.drew rfl) HL.out (by decide) (by decide)).mono ?_; intro e3 w3 hu; obtain ⟨A, c, s, rfl, ho3, hs3, hc3, hr3⟩ := SpanP.u16 hu HR0.out; clear hu
         have HO3 := Lib.hid (HO2.out.trans (⟨ho3.os, ho3.tape, ho3.output, ho3.size, ho3.block⟩ : Only (· = rb) w2 w3)); have HS3 := Lib.hid hs3; have HR3 := Lib.hid hr3
         have HGG : Hid (w3.heap[w.heap.size + 1]? = some (.cells z16.toArray 82 (0, 0))) := Lib.hid ((ho3.block _ (by show _ < w2.heap.size; have := HSZ.out; omega) (by have := HRB.out; omega)).trans HG1.out)
         have HG3 : Hid (w3.heap[w.heap.size]? = some (.cells z16.toArray 82 (0, 0))) := Lib.hid ((ho3.block _ (by show _ < w2.heap.size; have := HSZ.out; omega) (by have := HRB.out; omega)).trans HG0.out)
         have HNN : Hid ((s.map u8v).length = Nat.min s.length 16) := Lib.hid (by rw [List.length_map]; rcases hs3 with h | h <;> rw [h] <;> rfl)
         have HFF : Hid (0 + (s.map u8v).length ≤ z16.length) := Lib.hid (by rw [List.length_map]; rcases hs3 with h | h <;> rw [h] <;> decide)
         have HHH : Hid (∀ v ∈ s.map u8v, v.oneCell' = true) := Lib.hid (by intro v hv; simp only [List.mem_map] at hv; obtain ⟨b, _, rfl⟩ := hv; rfl)
         have HPP : Hid (0 < (s.map u8v).length → (some ⟨w.heap.size + 1, 0, none⟩ : Option Addr) = some ⟨w.heap.size + 1, 0, none⟩ ∧ ∃ ad, A = some ad ∧ ∀ j v, (s.map u8v)[j]? = some v → w3.cell? (ad.add j) = some v) := Lib.hid (fun hp => by
           obtain ⟨ad, h1, h2⟩ := hc3 (by simpa using hp)
           refine ⟨rfl, ad, h1, fun j v hj => ?_⟩
           rw [List.getElem?_map] at hj
           cases hb : s[j]? with
           | none => rw [hb] at hj; cases hj
           | some b => rw [hb] at hj; simp at hj; rw [← hj]; exact h2 j b hb)
         clear ho3 hs3 hc3 hr3; dsimp only))
  have hsl : (splice z16 0 (s.map u8v)).toArray.size = 16 := by
    have h := length_splice z16 0 (s.map u8v) HFF.out
    simpa [z16] using h
  have HSL : Hid ((Tryz.prog.info? 82).map (·.size) = some (splice z16 0 (s.map u8v)).toArray.size) := Lib.hid (by rw [hsl]; exact arr16)
  have HG4 : Hid (w4.heap[w.heap.size]? = some (.cells z16.toArray 82 (0, 0))) := Lib.hid ((HB4.out.block _ (Nat.lt_succ_self _)).trans HG3.out)
  have HH4 : Hid ((splice z16 0 (s.map u8v)).toArray.all (·.oneCell') = true) := Lib.hid (all_oneCell_toArray (fun v hv => by
    unfold splice at hv
    simp only [List.take_zero, List.nil_append, List.mem_append] at hv
    rcases hv with h | h
    · exact HHH.out v h
    · have := List.mem_of_mem_drop h; rw [z16, List.mem_replicate] at this; rw [this.2]; rfl))
  obtain ⟨w5, hw5⟩ : ∃ w5, w4.setRow w.heap.size (splice z16 0 (s.map u8v)).toArray = w5 := ⟨_, rfl⟩
  have g5 : w5.heap[w.heap.size]? = some (.cells (splice z16 0 (s.map u8v)).toArray 82 (0, 0)) := by rw [← hw5]; exact setRow_heap _ _ _ _ _ _ HG4.out
  have k5 : ∀ k, k < w.heap.size → w5.heap[k]? = w3.heap[k]? := fun k hk => by rw [← hw5, setRow_other _ _ _ _ (by omega)]; exact HB4.out.block k (by omega)
  have o5 : Only (· = rb) w w5 := by
    have o3 := HO3.out
    have b4 := HB4.out
    refine ⟨?_, ?_, ?_, ?_, fun k hk hn => (k5 k hk).trans (o3.block k hk hn)⟩
    · rw [← hw5]; exact b4.os.trans o3.os
    · rw [← hw5]; exact b4.tape.trans o3.tape
    · rw [← hw5]; exact b4.output.trans o3.output
    · rw [← hw5]; have := b4.size; have := o3.size; simp [World.setRow]; omega
  have HFIN := Lib.hid (RdP.uuid (w := w) (w3 := w3) (w5 := w5) (nn := nn) HD.out o5 (k5 D (Nat.lt_trans HD.out HRB.out)) (k5 rb HRB.out) HS3.out HR3.out)
  have HG5 := Lib.hid g5
  have HW5 := Lib.hid hw5
  clear hsl hw5 g5 k5 o5
  go_wp2_with (first
    | (refine wpList_load_row rfl 82 (.tmp 3) rfl (w.heap.size + 1) rfl 82 (splice z16 0 (s.map u8v)).toArray (0, 0) _ hg4.out Tryz.underlying82 rfl HSL.out ?_; go_frame)
    | (refine wpList_store_row rfl 82 (.tmp 2) (.tmp 8) rfl w.heap.size (splice z16 0 (s.map u8v)).toArray rfl rfl 82 z16.toArray HG4.out HSL.out ?_ HH4.out ?_; (show z16.toArray.size = _; have h := HSL.out; rw [arr16] at h; simpa [z16] using h); rw [HW5.out]; go_frame))
  (try simp only [Exit.inBlock, Exit.then])
  exact bodyPost_ret (results_cell_row rfl _ _ w.heap.size 82 _ (0, 0) _ rfl HG5.out Tryz.underlying82 rfl HSL.out) rfl HFIN.out
end Go.Proofs.YtpefipjgcpchaaaGreatDoorR.Kf
