/- Tags are written: their keys are sorted (by the library's contract). -/
import Derived.Test.YtpefipjgcpchaaaGreatDoorRTagE
import Derived.Test.YtpefipjgcpchaaaGreatDoorRShelf
import Derived.Shelf.GgSortFunc.Whole
import Derived.Shelf.GgSortFunc.Tiny
namespace Go.Proofs.YtpefipjgcpchaaaGreatDoorR.Kf
set_option linter.unusedVariables false
set_option linter.unusedSimpArgs false
open Go Go.RowKit Go.Sort Go.Lib

noncomputable def siT : TypeInfo := (Tryz.prog.info? 79).get (by kernel_rfl)
noncomputable def siE : TypeInfo := (Tryz.prog.info? 57).get (by kernel_rfl)
theorem siK (n : Nat) (h2 : 2 ≤ n) : Lib.swapperK n siE 10 = 6 := by
  have a : siE.hasPointers = false := by kernel_rfl
  have b : siE.bytes = 4 := by kernel_rfl
  have c : (n == 0) = false := by simp; omega
  have d : (n == 1) = false := by simp; omega
  simp [Lib.swapperK, a, b, c, d]

set_option maxRecDepth 100000 in
theorem less_k (blk off c Bs size : Nat) (W : World) (G : Nat → Int) (hs : W.cell? ⟨Bs, 0, none⟩ = some (.slice (some ⟨blk, off, none⟩) size c))
    (hc : ∀ t, t < size → W.cell? ⟨blk, off + t, none⟩ = some (.int .u32 (G t))) (i j : Nat) (hi : i < size) (hj : j < size) :
    Calls Tryz.prog 95 #[.int .i64 i, .int .i64 j, .pointer (some ⟨Bs, 0, none⟩)] W fun e w' => e = .returned (.bool (decide (G i < G j))) ∧ ∃ q, w' = W.drewN q := by
  have ci := hc i hi
  have cj := hc j hj
  go_enter Tryz.func95, Tryz.ntmps95
  go_wp2
  go_quiet (fail)
  go_wp2
  go_ret
  exact ⟨rfl, nq, rfl⟩

/-- What the sort comes to. -/
def SortP (base Bo g c : Nat) (l : List (Nat × List UInt8)) (w : World) (e : Ending) (w' : World) : Prop :=
  e = .returned (.tuple #[]) ∧ w.grownBy w' (some g) ∧ w'.heap[Bo]? = some (.cells #[.slice (some ⟨g, 0, none⟩) l.length c] 79 (0, 0)) ∧ w'.ownsRow base 57 1 (.slice (some ⟨g, 0, none⟩) l.length c) l.length ((keysT l).map encK)

theorem sort_keys {base Bo g c : Nat} {l : List (Nat × List UInt8)} {ss : List Int} {w : World} (hu : upTags 0 l) (hp : ss.Perm (keysT l)) (hb : w.heap[Bo]? = some (.cells #[.slice (some ⟨g, 0, none⟩) l.length c] 79 (0, 0)))
    (hr : w.ownsRow base 57 1 (.slice (some ⟨g, 0, none⟩) l.length c) l.length (ss.map encK)) (hl : l.length < 4294967296) (hbb : base ≤ Bo) :
    Calls Tryz.prog 94 #[.iface 79 (.slice (some ⟨g, 0, none⟩) l.length c), .func (.func 95) #[] #[.pointer (some ⟨Bo, 0, none⟩)]] w (SortP base Bo g c l w) := by
  have hss : ss.length = l.length := by have := hp.length_eq; simpa [keysT] using this
  have hne : g ≠ Bo := by
    intro e
    have := row_ne_box (b := Bo) (t := 79) hr hb (by decide)
    exact this (by simp [Value.ownBlock, e])
  rcases hr.2 with ⟨h0, _⟩ | ⟨g', cap, cur, hv, hg, hh, h1, h2, h3, h4⟩
  · cases h0
  injection hv with e1 _ e2
  injection e1 with e1
  injection e1 with e1
  subst e1; subst e2
  have hgl : g < w.heap.size := lt_of_block hh
  have hbl : Bo < w.heap.size := lt_of_block hb
  have hH : Go.Sort.Holds encK w g 0 ss.toArray := holds_of_blockK hh (by rw [hss]; simpa using h4)
  have hH' : Go.Sort.Holds encK w g 0 ss.toArray := hH
  by_cases hn : 2 ≤ l.length
  · have hless : LessReads Tryz.prog 95 #[.pointer (some ⟨Bo, 0, none⟩)] encK ltInt g 0 ss.toArray.size w := by
      intro m os dk hs i j hi hj
      have e : sortWorld encK w g 0 m dk os = putRow encK (grow (Sort.ahead w m) os) g 0 dk := by
        unfold sortWorld; rw [putRow_grow _ (Sort.ahead w m) _ g 0 _ hgl]
      have hHg : Go.Sort.Holds encK (grow (Sort.ahead w m) os) g 0 ss.toArray := holds_grow _ _ _ g 0 _ hgl (holds_ahead _ _ _ _ _ _ hH)
      refine less_k g 0 c Bo ss.toArray.size _ (fun t => dk[t]!) ?_ (fun t ht => ?_) i j hi hj
      · rw [e, cell?_putRow_other _ _ g 0 dk _ (Or.inl (by show Bo ≠ g; omega)), cell?_grow _ _ _ (by show Bo < (Sort.ahead w m).heap.size; exact hbl)]
        have : (Sort.ahead w m).cell? ⟨Bo, 0, none⟩ = w.cell? ⟨Bo, 0, none⟩ := rfl
        rw [this, cell_of_one hb]
        simp [hss]
      · rw [e]; exact cell?_putRow _ _ g 0 _ dk hHg hs t (by rw [hs]; exact ht)
    have hS := Any.sort_Slice_sorted Tryz.laysGg6 79 57 siT siE (by kernel_rfl) (by kernel_rfl) (by kernel_rfl) (by kernel_rfl) 10 (fun _ => by kernel_rfl) (by kernel_rfl) (fun _ => by kernel_rfl) encK (fun _ => rfl) ltInt swo_ltInt 95 _
      (enters_of Tryz.func95 (by kernel_rfl) rfl) g 0 c ss.toArray (by simp; omega) (by simp; omega) 109 (by rw [siK _ (by simp; omega)]; kernel_rfl) true
      (fun args W => run_callFunc_extern Tryz.func109 (by kernel_rfl) (by kernel_rfl) (by kernel_rfl) (e := Extern.ReflectliteSwapper.swap true) (by kernel_rfl) args W) _ hless hH hgl
    change Calls Tryz.prog 94 _ _ _ at hS
    have hsz : ss.toArray.size = l.length := by simpa using hss
    rw [hsz] at hS
    refine hS.mono ?_
    rintro e w' ⟨rfl, d', n, os, hP, hSo, rfl⟩
    rw [← hsz] at hP hSo
    obtain rfl := sorted_keys hu hp hP hSo
    refine ⟨rfl, grownBy_sortedK _, ?_, ?_⟩
    · rw [(grownBy_sortedK (keysT l).toArray).block Bo hbl (by simp; omega)]; exact hb
    · have := ownsRow_sortedK (n := n) (os := os) (ss := ss) (ts := keysT l) (by simp [keysT, hss]) hg hh (by omega) h2 h3
      rwa [hss] at this
  · have hK : Lib.swapperK l.length siE 10 = l.length + 1 := by
      rcases Nat.eq_zero_or_pos l.length with h | h
      · rw [h]; simp [Lib.swapperK]
      · obtain h : l.length = 1 := by omega
        rw [h]; simp [Lib.swapperK]
    have hS := Any.sort_Slice_tiny Tryz.laysGg6 79 57 siT siE (by kernel_rfl) (by kernel_rfl) (by kernel_rfl) (by kernel_rfl) 10 (fun _ => by kernel_rfl) (some ⟨g, 0, none⟩) l.length c (by omega) (104 + l.length) (by
      rw [hK]
      rcases Nat.eq_zero_or_pos l.length with h | h
      · rw [h]; kernel_rfl
      · obtain h : l.length = 1 := by omega
        rw [h]; kernel_rfl) (.func 95) #[] #[.pointer (some ⟨Bo, 0, none⟩)] w
    change Calls Tryz.prog 94 _ _ _ at hS
    refine hS.mono ?_
    rintro e w' ⟨rfl, os, rfl⟩
    have hgr : ∀ k, k < w.heap.size → (grow w os).heap[k]? = w.heap[k]? := fun k hk => heap_grow_old _ _ hk
    have hs1 : ss = keysT l := by
      have hlk : (keysT l).length = l.length := by simp [keysT]
      match ss, keysT l, hss, hlk, hp with
      | [], [], _, _, _ => rfl
      | [x], [y], _, _, hp => simpa using hp
      | [], _ :: _, a, b, _ => simp at a b; omega
      | _ :: _, [], a, b, _ => simp at a b; omega
      | _ :: _ :: _, _, a, _, _ => simp at a; omega
      | [_], _ :: _ :: _, a, b, _ => simp at a b; omega
    refine ⟨rfl, ⟨rfl, rfl, rfl, by simp [grow], fun k hk _ => hgr k hk⟩, (hgr Bo hbl).trans hb, ?_⟩
    rw [← hs1]
    exact ⟨hr.1, .inr ⟨g, c, cur, rfl, hg, (hgr g hgl).trans hh, h1, h2, h3, h4⟩⟩
end Go.Proofs.YtpefipjgcpchaaaGreatDoorR.Kf
