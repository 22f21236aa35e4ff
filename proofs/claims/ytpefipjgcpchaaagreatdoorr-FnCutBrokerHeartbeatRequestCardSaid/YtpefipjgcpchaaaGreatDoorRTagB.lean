/- Tags: one is set. -/
import Derived.Test.YtpefipjgcpchaaaGreatDoorRTagA
import Derived.Test.YtpefipjgcpchaaaGreatDoorRKbG
import Derived.Test.YtpefipjgcpchaaaGreatDoorRProg
import Derived.Lib.Hide
import Derived.Carry
import Derived.OwnWalk
import Derived.WalkSpells
namespace Go.Proofs.YtpefipjgcpchaaaGreatDoorR.Kf
set_option linter.unusedVariables false
set_option linter.unusedSimpArgs false
open Go Go.RowKit

def tgK : TypeId := 57
theorem und_tgK : Tryz.prog.underlying tgK = some (.int .u32) := Tryz.underlying57
/-- A tags' variable in a block of its own. -/
def TB (b : Nat) (w : World) (tv : Value) : Prop := w.heap[b]? = some (.cells #[tv] 64)
theorem TB.cell {b : Nat} {w : World} {tv : Value} (h : TB b w tv) : w.cell? ⟨b, 0, none⟩ = some tv := by
  unfold TB at h; simp [World.cell?, h]
theorem TB.froz {b : Nat} {w : World} {tv : Value} (h : TB b w tv) : w.frozen? ⟨b, 0, none⟩ = false := by
  unfold TB at h; simp [World.frozen?, h]
theorem TB.lt {b : Nat} {w : World} {tv : Value} (h : TB b w tv) : b < w.heap.size := (Array.getElem?_eq_some_iff.1 h).1
theorem TB.set {b : Nat} {w : World} {tv tv' : Value} (h : TB b w tv) : TB b (w.setCell ⟨b, 0, none⟩ tv') tv' := heap_setCell_same w b 0 _ 64 tv' h
theorem TB.keep {b : Nat} {w w' : World} {tv : Value} (h : TB b w tv) (hk : w'.heap[b]? = w.heap[b]?) : TB b w' tv := hk.trans h

/-- What Set comes to. -/
def SetP (D base b n : Nat) (acc : List (Nat × List UInt8)) (w : World) (e : Ending) (w' : World) : Prop :=
  e = .returned (.tuple #[]) ∧ Only (fun j => base ≤ j) w w' ∧ ∃ tv', TB b w' tv' ∧ TagsV Tryz.prog tgK w' D base n acc tv'

theorem tb_ne_map {b r n : Nat} {w : World} {tv : Value} {P : Program} {k : TypeId} {R : Value → Option (DataW (List UInt8) × List MemPlace)} {Dd : DataW (List UInt8)} (h : TB b w tv) (ho : w.ownsMap P k R r n Dd) : r ≠ b := by
  rintro rfl
  obtain ⟨es, clock, hb, _⟩ := ho
  unfold TB at h
  rw [hb] at h; cases h
theorem only_setAt {S : Nat → Prop} {w w' : World} {b : Nat} (h : Only S w w') (hb : S b) (o : Nat) (v : Value) : Only S w (w'.setCell ⟨b, o, none⟩ v) :=
  ⟨h.os, h.tape, h.output, by simpa using h.size, fun k hk hne => (heap_setCell_other _ _ k v (fun e => hne (by have e' : k = b := e; rw [e']; exact hb))).trans (h.block k hk hne)⟩
set_option maxRecDepth 100000 in
theorem tags_set {D base b n k : Nat} {w : World} {nn : Bool} {s : List UInt8} {v tv : Value} {acc : List (Nat × List UInt8)} (hs : Sp w D nn v s) (hB : TB b w tv) (hT : TagsV Tryz.prog tgK w D base n acc tv) (hu : upTags 0 acc) (hk : k < 4294967296)
    (hb : base ≤ b) (hD : D < base) (hn : n < maxLen) : Calls Tryz.prog 68 #[.pointer (some ⟨b, 0, none⟩), .int .u32 k, v] w (SetP D base b (n + 1) (tset k s acc) w) := by
  have hkey : keyOf Tryz.prog tgK (.int .u32 k) = some (.int .u32 k) := Maps.keyOf_int_mk und_tgK (wf_u32 hk)
  have hval := RO_sp hs
  have hput := tagD_put' (k := k) (v := s) hu
  have hlt := hB.lt
  rcases hT with ⟨rfl, rfl⟩ | ⟨r, rfl, hr, ho⟩
  · have c0 := hB.cell
    have f0 := hB.froz
    have esz : (w.setCell ⟨b, 0, none⟩ (.map (some w.heap.size))).heap.size = w.heap.size := by simp
    have ho := World.ownsMap_made (w.setCell ⟨b, 0, none⟩ (.map (some w.heap.size))) Tryz.prog tgK (RO w D)
    rw [esz] at ho
    have HO := Lib.hid ho
    have HB := Lib.hid hB
    have HP := Lib.hid hput
    have HV := Lib.hid hval
    have HK := Lib.hid hkey
    clear ho hB hput hval hkey hs hu esz
    have hmm := @run_makeMap Tryz.prog
    have qT : ∀ (w : World) (r : Option Nat), (binOp .eql 62 (.map r) (.map none)).run Tryz.prog w = .ok (.bool r.isNone) w := fun w r => run_eql_map_nil w _ _ _ r Tryz.underlying62
    go_enter Tryz.func68, Tryz.ntmps68
    go_wp2_with (at_mapUpdate; refine wpList_mapUpdate_own _ rfl _ _ _ 62 rfl tgK 22 (Maps.int_keyed und_tgK) Tryz.underlying62 (RO w D) w.heap.size 0 (tagD []) rfl HO.out (by decide) _ _ (.int .u32 k) rfl rfl HK.out (.held s) [] HV.out ?_; intro w1 ho1 hg1; have HO1 := Lib.hid ho1; have HG1 := Lib.hid hg1; clear ho1 hg1)
    go_end0
    have esz : (w.setCell ⟨b, 0, none⟩ (.map (some w.heap.size))).heap.size = w.heap.size := by simp
    have hg := HG1.out
    have ho1 := HO1.out
    rw [HP.out] at ho1
    have hsz : ((w.setCell ⟨b, 0, none⟩ (.map (some w.heap.size))).alloc (.map #[] 0)).heap.size = w.heap.size + 1 := by simp
    have hO : Only (fun j => base ≤ j) w ((w.setCell ⟨b, 0, none⟩ (.map (some w.heap.size))).alloc (.map #[] 0)) :=
      (only_setAt (Only.refl _ _) (by show base ≤ b; omega) _ _).alloc _
    have hO1 : Only (fun j => base ≤ j) w w1 := hO.trans (Only.grown hg (fun g hg => by cases hg; omega))
    have hD' : w1.heap[D]? = w.heap[D]? := hO1.block D (by omega) (by omega)
    have hTB : TB b ((w.setCell ⟨b, 0, none⟩ (.map (some w.heap.size))).alloc (.map #[] 0)) (.map (some w.heap.size)) := TB.keep (TB.set HB.out) ((MapKept.heap_alloc _ _).2 b (by rw [esz]; exact hlt))
    refine ⟨rfl, hO1, _, hTB.keep (hg.block b (by omega) (by intro e; cases e; omega)), .inr ⟨_, rfl, by omega, ?_⟩⟩
    rw [RO_keep hD']
    exact ho1.mono (by omega)
  · have c0 := hB.cell
    have hne : r ≠ b := tb_ne_map hB ho
    have HO := Lib.hid ho
    have HB := Lib.hid hB
    have HP := Lib.hid hput
    have HV := Lib.hid hval
    have HK := Lib.hid hkey
    clear ho hB hput hval hkey hs hu
    have qT : ∀ (w : World) (r : Option Nat), (binOp .eql 62 (.map r) (.map none)).run Tryz.prog w = .ok (.bool r.isNone) w := fun w r => run_eql_map_nil w _ _ _ r Tryz.underlying62
    go_enter Tryz.func68, Tryz.ntmps68
    go_wp2_with (at_mapUpdate; refine wpList_mapUpdate_own _ rfl _ _ _ 62 rfl tgK 22 (Maps.int_keyed und_tgK) Tryz.underlying62 (RO w D) r n (tagD acc) rfl HO.out hn _ _ (.int .u32 k) rfl rfl HK.out (.held s) [] HV.out ?_; intro w1 ho1 hg1; have HO1 := Lib.hid ho1; have HG1 := Lib.hid hg1; clear ho1 hg1)
    go_end0
    have hg := HG1.out
    have ho1 := HO1.out
    rw [HP.out] at ho1
    have hO1 : Only (fun j => base ≤ j) w w1 := Only.grown hg (fun g hg => by cases hg; omega)
    have hD' : w1.heap[D]? = w.heap[D]? := hO1.block D (by omega) (by omega)
    refine ⟨rfl, hO1, _, HB.out.keep (hg.block b hlt (by intro e; cases e; exact hne rfl)), .inr ⟨_, rfl, hr, ?_⟩⟩
    rw [RO_keep hD']
    exact ho1
end Go.Proofs.YtpefipjgcpchaaaGreatDoorR.Kf
