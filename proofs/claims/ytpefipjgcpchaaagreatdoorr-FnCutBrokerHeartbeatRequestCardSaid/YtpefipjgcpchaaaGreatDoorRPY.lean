/- Tags of a message: one is set. -/
import Derived.Test.YtpefipjgcpchaaaGreatDoorRTagB
import Derived.Test.YtpefipjgcpchaaaGreatDoorRPW
import Derived.Test.YtpefipjgcpchaaaGreatDoorRKbJ
import Derived.Test.YtpefipjgcpchaaaGreatDoorRKbV
namespace Go.Proofs.YtpefipjgcpchaaaGreatDoorR.Kf
set_option linter.unusedVariables false
set_option linter.unusedSimpArgs false
open Go Go.RowKit

/-- What Set comes to, of tags within a block. -/
def SetQ (D base b oT n : Nat) (acc : List (Nat × List UInt8)) (tv : Value) (w : World) (e : Ending) (w' : World) : Prop :=
  ∃ u, e = .returned u ∧ Only (fun j => j = b ∨ tv = .map (some j)) w w' ∧ Upd b oT (oT + 1) w w' ∧ ∃ tv', w'.cell? ⟨b, oT, none⟩ = some tv' ∧ TagsV Tryz.prog tgK w' D base n acc tv'
set_option maxRecDepth 100000 in
theorem tags_setM {D base b oT NB n k : Nat} {w : World} {nn : Bool} {s : List UInt8} {v tv : Value} {acc : List (Nat × List UInt8)} (hs : Sp w D nn v s) (hB : Blk w b NB) (c0 : w.cell? ⟨b, oT, none⟩ = some tv) (hT : TagsV Tryz.prog tgK w D base n acc tv) (hu : upTags 0 acc) (hk : k < 4294967296)
    (hbb : b < base) (hDb : b ≠ D) (hbs : base ≤ w.heap.size) (hD : D < base) (hn : n < maxLen) : Calls Tryz.prog 68 #[.pointer (some ⟨b, oT, none⟩), .int .u32 k, v] w (SetQ D base b oT (n + 1) (tset k s acc) tv w) := by
  have hkey : keyOf Tryz.prog tgK (.int .u32 k) = some (.int .u32 k) := Maps.keyOf_int_mk und_tgK (wf_u32 hk)
  have hval := RO_sp hs
  have hput := tagD_put' (k := k) (v := s) hu
  have hlt := hB.lt
  rcases hT with ⟨rfl, rfl⟩ | ⟨r, rfl, hr, ho⟩
  · have f0 := hB.free (j := oT)
    have esz : (w.setCell ⟨b, oT, none⟩ (.map (some w.heap.size))).heap.size = w.heap.size := by simp
    have ho := World.ownsMap_made (w.setCell ⟨b, oT, none⟩ (.map (some w.heap.size))) Tryz.prog tgK (RO w D)
    rw [esz] at ho
    have HO := Lib.hid ho
    have HB := Lib.hid hB
    have HP := Lib.hid hput
    have HV := Lib.hid hval
    have HK := Lib.hid hkey
    clear ho hB hput hval hkey hs hu esz
    have hmm := @run_makeMap Tryz.prog
    have qT : ∀ (w : World) (r : Option Nat), (binOp .eql 62 (.map r) (.map none)).run Tryz.prog w = .ok (.bool r.isNone) w := fun w r => run_eql_map_nil w _ _ _ r Tryz.underlying62
    go_enter Tryz.func68, Tryz.ntmps68
    go_wp2_with (at_mapUpdate; refine wpList_mapUpdate_own _ rfl _ _ _ 62 rfl tgK 22 (Maps.int_keyed und_tgK) Tryz.underlying62 (RO w D) w.heap.size 0 (tagD []) rfl HO.out (by decide) _ _ (.int .u32 k) rfl rfl HK.out (.held s) [] HV.out ?_; intro w1 ho1 hg1; have HO1 := Lib.hid ho1; have HG1 := Lib.hid hg1; clear ho1 hg1)
    go_end0
    have esz : (w.setCell ⟨b, oT, none⟩ (.map (some w.heap.size))).heap.size = w.heap.size := by simp
    have hg := HG1.out
    have ho1 := HO1.out
    rw [HP.out] at ho1
    have hsz : ((w.setCell ⟨b, oT, none⟩ (.map (some w.heap.size))).alloc (.map #[] 0)).heap.size = w.heap.size + 1 := by simp
    have hO : Only (fun j => j = b ∨ (Value.map none) = .map (some j)) w ((w.setCell ⟨b, oT, none⟩ (.map (some w.heap.size))).alloc (.map #[] 0)) :=
      (only_setAt (Only.refl _ _) (by exact .inl rfl) _ _).alloc _
    have hO1 : Only (fun j => j = b ∨ (Value.map none) = .map (some j)) w w1 := ⟨hg.os.trans hO.os, hg.tape.trans hO.tape, hg.output.trans hO.output, Nat.le_trans hO.size hg.size, fun j hj hn => (hg.block j (by have := hO.size; omega) (by intro e; cases e; omega)).trans (hO.block j hj hn)⟩
    have hD' : w1.heap[D]? = w.heap[D]? := hO1.block D (by omega) (by rintro (h | h); omega; cases h)
    have hbw : w1.heap[b]? = (w.setCell ⟨b, oT, none⟩ (.map (some w.heap.size))).heap[b]? := (hg.block b (by omega) (by intro e; cases e; omega)).trans ((MapKept.heap_alloc _ _).2 b (by rw [esz]; exact hlt))
    obtain ⟨cur, t, hcur, hcs⟩ := HB.out
    have hset := heap_setCell_same w b oT cur t (.map (some w.heap.size)) hcur
    have hoc : oT < cur.size := by
      rcases Nat.lt_or_ge oT cur.size with h | h
      · exact h
      · have : w.cell? ⟨b, oT, none⟩ = none := by simp [World.cell?, hcur, h]
        rw [this] at c0; cases c0
    refine ⟨_, rfl, hO1, fun cur2 t2 h2 => ?_, .map (some w.heap.size), ?_, .inr ⟨_, rfl, by omega, ?_⟩⟩
    · rw [hcur] at h2
      simp at h2
      obtain ⟨rfl, rfl⟩ := h2
      exact ⟨_, hbw.trans hset, by simp, fun j hj => by simp [Array.getElem?_setIfInBounds]; intro e; omega⟩
    · simp only [World.cell?, hbw.trans hset]
      simp [hoc]
    rw [RO_keep hD']
    exact ho1.mono (by omega)
  · have hne : r ≠ b := by omega
    have HO := Lib.hid ho
    have HB := Lib.hid hB
    have HP := Lib.hid hput
    have HV := Lib.hid hval
    have HK := Lib.hid hkey
    clear ho hB hput hval hkey hs hu
    have qT : ∀ (w : World) (r : Option Nat), (binOp .eql 62 (.map r) (.map none)).run Tryz.prog w = .ok (.bool r.isNone) w := fun w r => run_eql_map_nil w _ _ _ r Tryz.underlying62
    go_enter Tryz.func68, Tryz.ntmps68
    go_wp2_with (at_mapUpdate; refine wpList_mapUpdate_own _ rfl _ _ _ 62 rfl tgK 22 (Maps.int_keyed und_tgK) Tryz.underlying62 (RO w D) r n (tagD acc) rfl HO.out hn _ _ (.int .u32 k) rfl rfl HK.out (.held s) [] HV.out ?_; intro w1 ho1 hg1; have HO1 := Lib.hid ho1; have HG1 := Lib.hid hg1; clear ho1 hg1)
    go_end0
    have hg := HG1.out
    have ho1 := HO1.out
    rw [HP.out] at ho1
    have hO1 : Only (fun j => j = b ∨ (Value.map (some r)) = .map (some j)) w w1 := ⟨hg.os, hg.tape, hg.output, hg.size, fun j hj hn => hg.block j hj (by intro e; cases e; exact hn (.inr rfl))⟩
    have hD' : w1.heap[D]? = w.heap[D]? := hO1.block D (by omega) (by
      rintro (h | h)
      · omega
      · cases h; omega)
    have hbw : w1.heap[b]? = w.heap[b]? := hg.block b hlt (by intro e; cases e; exact hne rfl)
    refine ⟨_, rfl, hO1, Upd.same hbw, .map (some r), (World.cell?_of_block (w := w) hbw).trans c0, .inr ⟨_, rfl, hr, ?_⟩⟩
    rw [RO_keep hD']
    exact ho1
theorem setC : SetC Tryz.prog tgK 68 := ⟨⟨_, Tryz.func68, rfl, rfl⟩, fun D base b oT NB n key w nn s v tv acc h1 h2 h3 h4 h5 h6 h7 h8 h9 h10 h11 => tags_setM h1 h2 h3 h4 h5 h6 h8 h9 h10 h7 h11⟩
end Go.Proofs.YtpefipjgcpchaaaGreatDoorR.Kf

namespace Go.Proofs.YtpefipjgcpchaaaGreatDoorR.Kf
set_option linter.unusedVariables false
set_option linter.unusedSimpArgs false
open Go Go.RowKit

theorem only_own_base {U base : Nat} {w w' : World} {dst : Value} {ds : List UInt8} (hown : Own U base w dst ds) (h : Only (fun j => dst.ownBlock = some j) w w') : Only (fun j => base ≤ j) w w' := h.mono fun j _ hj => (World.ownsRow.lt hown j hj).1
theorem uvF : UvF Tryz.prog 5 43 (FrU 5) :=
  ⟨plain_g Tryz.func43 rfl rfl, fun base w dst ds n hown h hb hl => (app_uvx base w dst ds n hown h hb hl).mono fun e w' ⟨v, a, b, c⟩ => ⟨v, a, b, only_own_base hown c, frU_own hown c⟩⟩
theorem uv1x {base : Nat} {w : World} {dst : Value} {ds : List UInt8} (n : Nat) (hown : Own 5 base w dst ds) (h : n ≤ 2147483646) (hb : base ≤ w.heap.size) (hl : ds.length + 10 ≤ lim2) :
    Calls Tryz.prog 43 #[dst, .int .u32 (1 + (n : Int))] w (AppPx 5 base w dst (ds ++ uvEnc (n + 1))) := by
  have := app_uvx base w dst ds (n + 1) hown (by omega) hb hl
  have e : ((n + 1 : Nat) : Int) = 1 + (n : Int) := by omega
  rw [e] at this
  exact this
set_option maxRecDepth 100000 in
theorem lenF_compact : LnF Tryz.prog 5 45 false (FrU 5) := by
  refine ⟨plain_g Tryz.func45 rfl rfl, fun base w dst ds n isNil hown hn hnl hb hl => ?_⟩
  obtain rfl : isNil = false := by cases isNil; rfl; exact absurd (hnl rfl) (by decide)
  suffices h : Calls Tryz.prog 45 #[dst, .int .i64 n] w (AppPx 5 base w dst (ds ++ uvEnc (n + 1))) from h.mono fun e w' ⟨v, a, b, c⟩ => ⟨v, a, b, only_own_base hown c, frU_own hown c⟩
  have cA := Lib.hid (uv1x n hown hn hb hl)
  clear hb hown hl
  go_enter Tryz.func45, Tryz.ntmps45
  go_wp2_with (go_at_call 43; refine cA.out.mono ?_; rintro e1 w1 ⟨v1, rfl, ho1, hw1⟩; have HO1 := Lib.hid ho1; have HW1 := Lib.hid hw1; clear ho1 hw1)
  go_ret
  exact ⟨_, rfl, HO1.out, HW1.out⟩
set_option maxRecDepth 100000 in
theorem lenF_cnull : LnF Tryz.prog 5 48 true (FrU 5) := by
  refine ⟨plain_g Tryz.func48 rfl rfl, fun base w dst ds n isNil hown hn hnl hb hl => ?_⟩
  cases isNil
  · skip
    suffices h : Calls Tryz.prog 48 #[dst, .int .i64 n, .bool false] w (AppPx 5 base w dst (ds ++ uvEnc (n + 1))) from h.mono fun e w' ⟨v, a, b, c⟩ => ⟨v, a, b, only_own_base hown c, frU_own hown c⟩
    have cA := Lib.hid (uv1x n hown hn hb hl)
    clear hb hown hl
    go_enter Tryz.func48, Tryz.ntmps48
    go_wp2_with (go_at_call 43; refine cA.out.mono ?_; rintro e1 w1 ⟨v1, rfl, ho1, hw1⟩; have HO1 := Lib.hid ho1; have HW1 := Lib.hid hw1; clear ho1 hw1)
    go_ret
    exact ⟨_, rfl, HO1.out, HW1.out⟩
  · skip
    suffices h : Calls Tryz.prog 48 #[dst, .int .i64 n, .bool true] w (AppPx 5 base w dst (ds ++ [0])) from h.mono fun e w' ⟨v, a, b, c⟩ => ⟨v, a, b, only_own_base hown c, frU_own hown c⟩
    have cA := Lib.hid (app_uvx base w dst ds 0 hown (by omega) hb hl)
    clear hb hown hl
    go_enter Tryz.func48, Tryz.ntmps48
    go_wp2_with (go_at_call 43; refine cA.out.mono ?_; rintro e1 w1 ⟨v1, rfl, ho1, hw1⟩; have HO1 := Lib.hid ho1; have HW1 := Lib.hid hw1; clear ho1 hw1)
    go_ret
    exact ⟨_, rfl, HO1.out, HW1.out⟩
set_option maxRecDepth 100000 in
theorem apF_uuid : ApF Tryz.prog 5 47 (.prim .uuid) (FrU 5) := by
  refine ⟨plain_g Tryz.func47 rfl rfl, fun D base w dst ds lo hi cs x hown hx hw hdb hb hl => ?_⟩
  rcases hx with ⟨h, _⟩ | ⟨_, s, hs, rfl, rfl⟩
  · exact absurd rfl h
  · have e : (enc (RK.prim .uuid).m.w (.bytes (some s))) = s := by simp [RK.m, M.w, enc]
    rw [e] at hl ⊢
    suffices h : Calls Tryz.prog 47 #[dst, .agg (s.map u8v).toArray] w (AppPx 5 base w dst (ds ++ s)) from h.mono fun e w' ⟨v, a, b, c⟩ => ⟨v, a, b, only_own_base hown c, frU_own hown c⟩
    obtain ⟨i0, hi, hz0, hz1, hz2⟩ := info_u8
    have hsz : (s.map u8v).toArray.size = 16 := by simpa using hs
    have HS := Lib.hid hs
    have HO := Lib.hid (hown.keep ((Only.refl (fun _ => False) w).alloc (.cells (s.map u8v).toArray 82)))
    have HL := Lib.hid hl
    have HB := Lib.hid hb
    have HC : Hid (Sp (w.alloc (.cells (s.map u8v).toArray 82)) w.heap.size true (.slice (some ⟨w.heap.size, 0, none⟩) 16 16) s) := Lib.hid (.inr ⟨rfl, 0, 16, by rw [hs], by omega, fun j b hj => by
      have : (s.map u8v).toArray[0 + j]? = some (u8v b) := by simp [hj]
      simp only [World.cell?, heap_alloc_new]
      exact this⟩)
    clear hown hl hb hs
    generalize (s.map u8v).toArray = A at *
    go_enter Tryz.func47, Tryz.ntmps47
    go_wp2_with (first
      | (at_builtin; refine wp_app_spx rfl (.tmp 5) (.tmp 6) 22 rfl Tryz.underlying22 hi hz0 hz1 hz2 rfl HO.out (D := w.heap.size) rfl HC.out (Nat.le_trans HB.out ((Only.refl (fun _ => False) w).alloc (.cells A 82)).size) (by have := HL.out; omega) ?_; intro v2 w2 ho2 hw2; have HO2 := Lib.hid ho2; have HW2 := Lib.hid (((Only.refl (fun j => dst.ownBlock = some j) w).alloc (.cells A 82)).trans hw2); clear ho2 hw2)
      | fail)
    go_ret
    exact ⟨_, rfl, HO2.out, HW2.out⟩
end Go.Proofs.YtpefipjgcpchaaaGreatDoorR.Kf
