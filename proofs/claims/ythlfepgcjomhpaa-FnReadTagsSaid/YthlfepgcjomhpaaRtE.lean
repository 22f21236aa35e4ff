/- spec.LastTags: of tags that were set one after the other, what is there. -/
import Derived.Test.YthlfepgcjomhpaaRtD
namespace Go.Proofs.Ythlfepgcjomhpaa.Kf
set_option linter.unusedVariables false
set_option linter.unusedSimpArgs false
open Go Go.RowKit

theorem made_row (wr : World) (b : Obj) (Q : Nat) : (((wr.alloc b).drewN Q).alloc (.cells #[] 56)).ownsRow (wr.heap.size + 1) 56 2 (.slice (some ⟨wr.heap.size + 1, 0, none⟩) 0 0) 0 [] := by
  have hs : ((wr.alloc b).drewN Q).heap.size = wr.heap.size + 1 := by
    have : ((wr.alloc b).drewN Q).heap = (wr.alloc b).heap := rfl
    rw [this]; simp
  have := World.ownsRow_made (base := wr.heap.size + 1) (e := 56) (size := 2) ((wr.alloc b).drewN Q) #[] 0 (by omega) (by unfold maxLen; omega) rfl
  rw [hs] at this
  exact this
theorem made_size (wr : World) (b : Obj) (Q : Nat) : wr.heap.size + 1 ≤ (((wr.alloc b).drewN Q).alloc (.cells #[] 56)).heap.size := by
  have : ((wr.alloc b).drewN Q).heap = (wr.alloc b).heap := rfl
  simp [this]
theorem made_only {wr w4 : World} {b o : Obj} {Q : Nat} (hg : (((wr.alloc b).drewN Q).alloc o).grownBy w4 (Value.slice (some ⟨wr.heap.size + 1, 0, none⟩) 0 0).ownBlock) : Only (fun j => wr.heap.size + 1 ≤ j) (wr.alloc b) w4 := by
  refine ((only_drew (Only.refl _ _) Q).alloc o).trans (Only.grown hg fun j e => ?_)
  have h : wr.heap.size + 1 = j := by simpa [Value.ownBlock] using e
  show wr.heap.size + 1 ≤ j
  omega
theorem tbox0 {w : World} {b : Nat} {x y : Value} {t : Nat} (h : w.heap[b]? = some (.cells #[x, y] t (0, 0))) : w.cell? ⟨b, 0, none⟩ = some x := by simp [World.cell?, h]
theorem tbox1 {w : World} {b : Nat} {x y : Value} {t : Nat} (h : w.heap[b]? = some (.cells #[x, y] t (0, 0))) : w.cell? ⟨b, 1, none⟩ = some y := by simp [World.cell?, h]
theorem cells2_take (l : List (Value × Value)) (i : Nat) : cells2 (l.take i) = (cells2 l).take (i * 2) := by
  induction l generalizing i with
  | nil => simp [cells2]
  | cons e l ih =>
    cases i with
    | zero => simp [cells2]
    | succ i => rw [List.take_succ_cons, cells2_cons, cells2_cons, ih, show (i + 1) * 2 = i * 2 + 1 + 1 by omega, List.take_succ_cons, List.take_succ_cons]
theorem cells2_drop (l : List (Value × Value)) (i : Nat) : cells2 (l.drop i) = (cells2 l).drop (i * 2) := by
  induction l generalizing i with
  | nil => simp [cells2]
  | cons e l ih =>
    cases i with
    | zero => simp
    | succ i => rw [List.drop_succ_cons, cells2_cons, ih, show (i + 1) * 2 = i * 2 + 1 + 1 by omega, List.drop_succ_cons, List.drop_succ_cons]
theorem take_cells {base n i g c : Nat} {w : World} {E : List (Value × Value)} (hl : E.length = n) (hi : i ≤ n) (h : w.ownsRow base 56 2 (.slice (some ⟨g, 0, none⟩) n c) n (cells2 E)) : ∀ j u, (cells2 (E.take i))[j]? = some u → w.cell? ((⟨g, 0, none⟩ : Addr).add j) = some u := by
  intro j u hj
  rw [cells2_take, List.getElem?_take] at hj
  split at hj
  · exact World.ownsRow.cells h rfl j u hj
  · cases hj
theorem drop_cells {base n i g c : Nat} {w : World} {E : List (Value × Value)} (hl : E.length = n) (hi : i ≤ n) (h : w.ownsRow base 56 2 (.slice (some ⟨g, 0, none⟩) n c) n (cells2 E)) : ∀ j u, (cells2 (E.drop i))[j]? = some u → w.cell? ((⟨g, i * 2, none⟩ : Addr).add j) = some u := by
  intro j u hj
  rw [cells2_drop, List.getElem?_drop] at hj
  have := World.ownsRow.cells h rfl _ u hj
  rw [Addr.add_lit] at this ⊢
  rwa [Nat.zero_add] at this
theorem one_cells {acc : List TV} {wr : World} {B : Nat} (hoc : ∀ e ∈ acc, Oc wr B e.2 e.1.2 ∧ e.1.1 < 4294967296) : ∀ u ∈ cells2 (acc.map cellE), u.oneCell' = true := by
  intro u hu
  unfold cells2 at hu
  obtain ⟨l, hl, hul⟩ := List.mem_flatten.1 hu
  obtain ⟨p, hp, rfl⟩ := List.mem_map.1 hl
  obtain ⟨e, he, rfl⟩ := List.mem_map.1 hp
  obtain ⟨A, c, h5, _⟩ := (hoc e he).1.sl
  simp [cellE, h5] at hul
  rcases hul with rfl | rfl <;> rfl
theorem take_one {acc : List TV} {wr : World} {B : Nat} (hoc : ∀ e ∈ acc, Oc wr B e.2 e.1.2 ∧ e.1.1 < 4294967296) (i : Nat) : ∀ u ∈ cells2 ((acc.map cellE).take i), u.oneCell' = true := fun u hu => one_cells hoc u (by rw [cells2_take] at hu; exact List.mem_of_mem_take hu)
theorem drop_one {acc : List TV} {wr : World} {B : Nat} (hoc : ∀ e ∈ acc, Oc wr B e.2 e.1.2 ∧ e.1.1 < 4294967296) (i : Nat) : ∀ u ∈ cells2 ((acc.map cellE).drop i), u.oneCell' = true := fun u hu => one_cells hoc u (by rw [cells2_drop] at hu; exact List.mem_of_mem_drop hu)
theorem ins_row {base base' n i g c key n1 c1 : Nat} {A1 : Option Addr} {val : List UInt8} {w7 : World} {acc : List TV} (h : w7.ownsRow base 56 2 (.slice (some ⟨g, 0, none⟩) (n + 1) c) (n + 1) (cells2 ((acc.map cellE).take i) ++ [.int .u32 (key : Int), .slice A1 n1 c1] ++ cells2 ((acc.map cellE).drop i))) (hn : acc.length = n) (hi : i ≤ n) (hb : base' ≤ base) :
    w7.ownsRow base' 56 2 (.slice (some ⟨g, 0, none⟩) (n + 1) c) (acc.take i ++ ((key, val), .slice A1 n1 c1) :: acc.drop i).length (cells2 ((acc.take i ++ ((key, val), .slice A1 n1 c1) :: acc.drop i).map cellE)) := by
  have e1 : (acc.take i ++ ((key, val), .slice A1 n1 c1) :: acc.drop i).length = n + 1 := by simp; omega
  have e2 : cells2 ((acc.take i ++ ((key, val), Value.slice A1 n1 c1) :: acc.drop i).map cellE) = cells2 ((acc.map cellE).take i) ++ [.int .u32 (key : Int), .slice A1 n1 c1] ++ cells2 ((acc.map cellE).drop i) := by
    rw [List.map_append, List.map_cons, cells2_app, cells2_cons, List.map_take, List.map_drop]
    simp [cellE]
  rw [e1, e2]
  refine ⟨h.1, ?_⟩
  rcases h.2 with ⟨h0, _⟩ | ⟨g', cap, cur, h1, h2, h3⟩
  · cases h0
  · exact .inr ⟨g', cap, cur, h1, by omega, h3⟩
theorem LtR.next' {w wr w6 : World} {B j key : Nat} {u : List (Nat × List UInt8)} {val : List UInt8} {v' xv : Value} {acc : List TV} (hB : B ≤ w.heap.size) (hj : j < u.length) (hu : u[j] = (key, val)) (hac : acc.map Prod.fst = lastT (u.take j)) (hoc : ∀ e ∈ acc, Oc wr B e.2 e.1.2 ∧ e.1.1 < 4294967296) (hal : acc.length ≤ j) (ho : Only (fun _ => False) w wr)
    (hx : Oc wr B xv val) (hk : key < 4294967296) (h6 : Only (fun _ => False) w w6) (hrow : w6.ownsRow w.heap.size 56 2 v' (setT ((key, val), xv) acc).length (cells2 ((setT ((key, val), xv) acc).map cellE))) : LtR w B u (j + 1) v' w6 :=
  LtR.next hB hj hac hoc hal ho (by rw [hu]; exact hx) (by rw [hu]; exact hk) h6 (by rw [hu]; exact hrow)

set_option maxHeartbeats 4000000 in
set_option maxRecDepth 100000 in
theorem sp_last (w : World) (B : Nat) (uv : Value) (u : List (Nat × List UInt8)) (hB : B ≤ w.heap.size) (hU : TgsC w B u uv) (hlen : u.length ≤ 32767) :
    Calls Try.prog 7 #[uv] w fun e w' => ∃ vv, e = .returned vv ∧ LtR w B u u.length vv w' := by
  obtain ⟨i0, hi, hz0, hz1, hz2⟩ := info_parts info_tagm
  have HB := Lib.hid hB
  obtain ⟨fu, hsu, _⟩ := id hU
  obtain ⟨AU, cU, rfl, hcU⟩ := hsu.sl
  have HU := Lib.hid hU
  clear hB hU hsu
  go_enter Try.func7, Try.ntmps7
  go_wp2_with fail
  go_loopw [3, 10] (fun v i wr => ∃ j : Nat, j ≤ u.length ∧ i = .int .i64 j ∧ LtR w B u j v wr) (fun _ i _ => u.length - (intOf i).toNat)
  case atStart => exact ⟨0, Nat.zero_le _, rfl, [], rfl, by simp, Nat.le_refl _, Only.refl _ _, World.ownsRow_nil _ _ _ _⟩
  case round =>
    obtain ⟨j, hj, rfl, acc, hac, hoc, hal, honly, hrow⟩ := hrel
    have HAC := Lib.hid hac
    have HOC := Lib.hid hoc
    have HO := Lib.hid honly
    have HAL := Lib.hid hal
    clear hac hoc hal
    by_cases hlt : j < u.length
    · have hju : j < u.length := hlt
      obtain ⟨b, o, A1, n1, c1, rfl, _, hbB, hk32, hocx, ck, cx⟩ := (TgsC.keepU HU.out (honly.kept0 HB.out)).at_ hju
      obtain ⟨uj, huj⟩ : ∃ uj, u[j] = uj := ⟨_, rfl⟩
      rw [huj] at ck hk32 hocx
      obtain ⟨key, val⟩ := uj
      have HUJ := Lib.hid huj
      have HXO := Lib.hid hocx
      have HK32 := Lib.hid hk32
      clear hocx hk32 honly huj
      simp only at ck cx
      have hlt' : ((j : Int) < (u.length : Int)) := by omega
      have e9 : wrap64 ((j : Int) + 1) = (j : Int) + 1 := by unfold wrap64; omega
      have hi0 := hi
      clear hi
      generalize hn : acc.length = n at *
      have hnj : n ≤ 32767 := by have := HAL.out; omega
      rcases hrow.2 with ⟨rfl, h0⟩ | ⟨gA, cv, cur, rfl, hgb, hgh, hncv, hrest⟩
      · -- no tag so far
        have HROW := Lib.hid hrow
        clear hrow
        subst h0
        have hacc : acc = [] := List.eq_nil_of_length_eq_zero hn
        have hii : decide ((0 : Int) < (0 : Int)) = false := by decide
        subst hacc
        have HMK : Hid (∀ Q, (((wr.alloc (.cells #[.int .u32 (key : Int), .slice A1 n1 c1] 56)).drewN Q).alloc (.cells #[] 56)).ownsRow (wr.heap.size + 1) 56 2 (.slice (some ⟨wr.heap.size + 1, 0, none⟩) 0 0) 0 []) := Lib.hid fun Q => made_row wr _ Q
        have HSB : Hid (∀ Q, wr.heap.size + 1 ≤ (((wr.alloc (.cells #[.int .u32 (key : Int), .slice A1 n1 c1] 56)).drewN Q).alloc (.cells #[] 56)).heap.size) := Lib.hid fun Q => made_size wr _ Q
        have HSW := Lib.hid HO.out.size
        go_wp2_with fail
        refine wp_loop_once ?_
        go_wp2_with fail
        go_quiet (fail)
        go_wp2_with fail
        go_quiet (fail)
        go_wp2_with (first
          | (at_builtin; refine wp_rows rfl (.tmp 48) (.tmp 51) 25 rfl (wr.heap.size + 1) 56 i0 (.agg #[.int .u32 0, .slice none 0 0]) 2 32 Try.underlying25 hi0 hz0 hz1 hz2 rfl (by decide) (.slice (some ⟨wr.heap.size + 1, 0, none⟩) 0 0) 0 [] rfl (HMK.out _) (.slice none 0 0) 0 [] rfl (.inl ⟨rfl, rfl, rfl⟩) (by unfold maxLen; omega) (by omega) (HSB.out _) ?_
             intro v4 w4 h4 hg4 hn4
             obtain ⟨g4, c4, rfl⟩ := own_form4 h4 (fun e => by have := (hn4.1 e).1; cases this)
             have ho4 := made_only hg4
             have hb4 := (ho4.block wr.heap.size (by simp) (by omega)).trans (heap_alloc_new _ _)
             have HO4 := Lib.hid ho4
             have H4 := Lib.hid h4
             have d0 := tbox0 hb4
             have d1 := tbox1 hb4
             clear h4 hg4 hn4 ho4 hb4)
          | (at_builtin; refine wp_rows rfl (.tmp 53) (.tmp 55) 25 rfl (wr.heap.size + 1) 56 i0 (.agg #[.int .u32 0, .slice none 0 0]) 2 32 Try.underlying25 hi0 hz0 hz1 hz2 rfl (by decide) _ 0 _ rfl (World.ownsRow.alloc H4.out _) _ 1 [.int .u32 (key : Int), .slice A1 n1 c1] rfl (.inr ⟨⟨w4.heap.size, 0, none⟩, 1, rfl, rfl, cell_two_new w4 _ _ _, by intro u hu; simp at hu; rcases hu with rfl | rfl <;> rfl⟩) (by unfold maxLen; omega) (by omega) (by have := HO4.out.size; simp at this ⊢; omega) ?_
             intro v5 w5 h5 hg5 hn5
             obtain ⟨g5, c5, rfl⟩ := own_form4 h5 (fun e => by have := (hn5.1 e).2; omega)
             have HO5 : Hid (Only (fun j => wr.heap.size + 1 ≤ j) (wr.alloc (.cells #[.int .u32 (key : Int), .slice A1 n1 c1] 56)) w5) := Lib.hid ((HO4.out.alloc _).trans (Only.grown hg5 fun j e => (World.ownsRow.lt H4.out j e).1))
             have H5 := Lib.hid h5
             clear h5 hg5 hn5)
          | (at_builtin; refine wp_rows rfl (.tmp 57) (.tmp 60) 25 rfl (wr.heap.size + 1) 56 i0 (.agg #[.int .u32 0, .slice none 0 0]) 2 32 Try.underlying25 hi0 hz0 hz1 hz2 rfl (by decide) _ (0 + 1) _ rfl H5.out (.slice none 0 0) 0 [] rfl (.inl ⟨rfl, rfl, rfl⟩) (by unfold maxLen; omega) (by omega) (by have := HO5.out.size; simp at this; omega) ?_
             intro v7 w7 h7 hg7 hn7
             obtain ⟨g7, c7, rfl⟩ := own_form4 h7 (fun e => by have := (hn7.1 e).1; cases this)
             have HO7 : Hid (Only (fun j => wr.heap.size + 1 ≤ j) (wr.alloc (.cells #[.int .u32 (key : Int), .slice A1 n1 c1] 56)) w7) := Lib.hid (HO5.out.trans (Only.grown hg7 fun j e => (World.ownsRow.lt H5.out j e).1))
             have H7 := Lib.hid h7
             clear h7 hg7 hn7)
          | fail)
        go_roundw
        case rel =>
          have h6 : Only (fun _ => False) w w7 := HO.out.trans (((Only.refl (fun _ => False) wr).alloc _).own (B := wr.heap.size + 1) HO7.out (Nat.le_succ _))
          refine ⟨j + 1, hlt, rfl, LtR.next' HB.out hju HUJ.out HAC.out HOC.out HAL.out HO.out HXO.out HK32.out h6 ?_⟩
          have hr := ins_row (acc := []) (i := 0) (n := 0) (val := val) (base' := w.heap.size) H7.out rfl (Nat.le_refl _) (by have := HSW.out; omega)
          exact hr
        case measure => exact msrI u.length j _ _ hlt rfl rfl
      · have HROW := Lib.hid hrow
        have HCUR := Lib.hid (And.intro hgb hgh)
        clear hrow hrest hgh
        go_wp2_with fail
        go_loopw [6] (fun iv w2 => ∃ i : Nat, i ≤ n ∧ iv = .int .i64 i ∧ (∀ i' (h : i' < acc.length), i' < i → acc[i'].1.1 < key) ∧ ∃ q, w2 = (wr.alloc (.cells #[.int .u32 (key : Int), .slice A1 n1 c1] 56)).drewN q) (fun iv _ => n - (intOf iv).toNat)
        case atStart => exact ⟨0, Nat.zero_le _, rfl, fun _ _ h => by omega, 0, rfl⟩
        case round =>
          obtain ⟨i, hi, rfl, hlow, q, rfl⟩ := hrel
          by_cases hin : i < n
          · have hii : decide ((i : Int) < (n : Int)) = true := by simp; omega
            have hia : i < acc.length := by omega
            have hr2 : (wr.alloc (.cells #[.int .u32 (key : Int), .slice A1 n1 c1] 56)).ownsRow w.heap.size 56 2 (.slice (some ⟨gA, 0, none⟩) n cv) n (cells2 (acc.map cellE)) := World.ownsRow.alloc HROW.out (.cells #[.int .u32 (key : Int), .slice A1 n1 c1] 56)
            have ce : (wr.alloc (.cells #[.int .u32 (key : Int), .slice A1 n1 c1] 56)).cell? ⟨gA, i * 2, none⟩ = some (.int .u32 acc[i].1.1) := by
              rw [World.ownsRow.cellAt hr2 _ (by omega), cells2_fst (acc.map cellE) i (by simpa using hia)]; simp [cellE]
            have hlow2 : acc[i].1.1 < key → ∀ i' (h : i' < acc.length), i' < i + 1 → acc[i'].1.1 < key := fun h i' h2 h3 => by
              by_cases e : i' = i
              · subst e; exact h
              · exact hlow i' h2 (by omega)
            have HL2 := Lib.hid hlow2
            obtain ⟨kk, hkk⟩ : ∃ kk, acc[i].1.1 = kk := ⟨_, rfl⟩
            rw [hkk] at ce
            have HKK := Lib.hid hkk
            have HR2 := Lib.hid hr2
            clear hlow2 hr2
            by_cases hc1 : kk < key
            · have hc1' : decide ((kk : Int) < (key : Int)) = true := by simp; omega
              go_wp2_with fail
              go_quiet (fail)
              go_wp2_with fail
              go_roundw
              case rel => exact ⟨i + 1, by omega, rfl, HL2.out (by rw [HKK.out]; exact hc1), _, rfl⟩
              case measure => exact msrI n i _ _ hin rfl rfl
            · have hc1' : decide ((kk : Int) < (key : Int)) = false := by simp; omega
              by_cases hc2 : kk = key
              · have hc2' : decide ((kk : Int) = (key : Int)) = true := by simp; omega
                have hset := setT_eq ((key, val), .slice A1 n1 c1) acc i hia hlow (by rw [HKK.out]; exact hc2)
                have HSETE := Lib.hid hset
                have HEQ : Hid (∀ Q w5, ((wr.alloc (.cells #[.int .u32 (key : Int), .slice A1 n1 c1] 56)).drewN Q).setCells gA (i * 2) (#[.int .u32 (key : Int), .slice A1 n1 c1] : Array Value).toList = w5 → Only (fun _ => False) w w5 ∧ w5.ownsRow w.heap.size 56 2 (.slice (some ⟨gA, 0, none⟩) n cv) n (cells2 ((acc.map cellE).set i (.int .u32 (key : Int), .slice A1 n1 c1)))) := Lib.hid fun Q w5 e => by
                  subst e
                  have hq : ((wr.alloc (.cells #[.int .u32 (key : Int), .slice A1 n1 c1] 56)).drewN Q).ownsRow w.heap.size 56 2 (.slice (some ⟨gA, 0, none⟩) n cv) n (cells2 (acc.map cellE)) := HR2.out
                  obtain ⟨r1, g1⟩ := World.ownsRow.stored hq (i * 2) (.int .u32 (key : Int))
                  obtain ⟨r2, g2⟩ := World.ownsRow.stored r1 (i * 2 + 1) (.slice A1 n1 c1)
                  rw [cells2_set (acc.map cellE) i _ _ (by simpa using hia)] at r2
                  have hO : Only (fun _ => False) w ((wr.alloc (.cells #[.int .u32 (key : Int), .slice A1 n1 c1] 56)).drewN Q) := only_drew (HO.out.alloc _) Q
                  refine ⟨⟨hO.os, hO.tape, hO.output, ?_, fun k hk _ => ?_⟩, r2⟩
                  · exact Nat.le_trans hO.size (Nat.le_trans g1.size g2.size)
                  · have hne : k ≠ gA := by have := HCUR.out.1; omega
                    exact (heap_setCell_other _ _ k _ hne).trans ((heap_setCell_other _ _ k _ hne).trans (hO.block k hk id))
                have HTH : Hid (∀ Q, ((wr.alloc (.cells #[.int .u32 (key : Int), .slice A1 n1 c1] 56)).drewN Q).there gA (i * 2) 2) := Lib.hid fun Q j2 hj2 => by
                  have hq : ((wr.alloc (.cells #[.int .u32 (key : Int), .slice A1 n1 c1] 56)).drewN Q).ownsRow w.heap.size 56 2 (.slice (some ⟨gA, 0, none⟩) n cv) n (cells2 (acc.map cellE)) := HR2.out
                  refine ⟨?_, hq.frozenAt _⟩
                  match j2, hj2 with
                  | 0, _ => rw [Nat.add_zero, World.ownsRow.cellAt hq _ (by omega), cells2_fst (acc.map cellE) i (by simpa using hia)]; rfl
                  | 1, _ => rw [World.ownsRow.cellAt hq _ (by omega), cells2_snd (acc.map cellE) i (by simpa using hia)]; rfl
                have H1C : Hid ((#[.int .u32 (key : Int), .slice A1 n1 c1] : Array Value).all (·.oneCell') = true) := Lib.hid (all_oneCell_toArray (cs := [.int .u32 (key : Int), .slice A1 n1 c1]) (by intro v hv; simp at hv; rcases hv with rfl | rfl <;> rfl))
                clear hset
                go_wp2_with fail
                go_quiet (fail)
                go_wp2_with fail
                go_quiet (fail)
                go_wp2_with (first
                  | (refine wpList_store_mid rfl 56 (.tmp 47) (.tmp 46) rfl gA (i * 2) #[.int .u32 (key : Int), .slice A1 n1 c1] rfl rfl (HTH.out _) info_tag2 H1C.out ?_
                     generalize hW5 : World.setCells _ gA (i * 2) _ = w5
                     have H5 := Lib.hid (HEQ.out _ w5 hW5)
                     clear hW5)
                  | fail)
                go_roundw
                case rel =>
                  refine ⟨j + 1, hlt, rfl, LtR.next' HB.out hju HUJ.out HAC.out HOC.out (by rw [hn]; exact HAL.out) HO.out HXO.out HK32.out H5.out.1 ?_⟩
                  rw [HSETE.out, List.length_set, hn, List.map_set]
                  exact H5.out.2
                case measure => exact msrI u.length j _ _ hlt rfl rfl
              · have hc2' : decide ((kk : Int) = (key : Int)) = false := by simp; omega
                have HSTOP : Hid (∀ h : i < acc.length, key < acc[i].1.1) := Lib.hid fun h => by rw [HKK.out]; omega
                have hcv : ¬ cv = i := by omega
                go_wp2_with fail
                go_quiet (fail)
                go_wp2_with fail
                go_quiet (fail)
                have hlE : (acc.map cellE).length = n := by simp [hn]
                have HC1 : Hid (∀ Q, (.slice (some ⟨gA, 0, none⟩) i cv = Value.slice none 0 0 ∧ i = 0 ∧ cells2 ((acc.map cellE).take i) = []) ∨ ∃ ad c, (.slice (some ⟨gA, 0, none⟩) i cv : Value) = .slice (some ad) i c ∧ (cells2 ((acc.map cellE).take i)).length = i * 2 ∧ (∀ j u, (cells2 ((acc.map cellE).take i))[j]? = some u → (((wr.alloc (.cells #[.int .u32 (key : Int), .slice A1 n1 c1] 56)).drewN Q).alloc (.cells #[] 56)).cell? (ad.add j) = some u) ∧ ∀ u ∈ cells2 ((acc.map cellE).take i), u.oneCell' = true) := Lib.hid fun Q => .inr ⟨_, _, rfl, by rw [cells2_len, List.length_take, hlE]; congr 1; omega, take_cells hlE (by omega) (World.ownsRow.alloc (w := (wr.alloc (.cells #[.int .u32 (key : Int), .slice A1 n1 c1] 56)).drewN Q) (World.ownsRow.alloc HROW.out (.cells #[.int .u32 (key : Int), .slice A1 n1 c1] 56)) _), take_one HOC.out i⟩
                have HMK : Hid (∀ Q, (((wr.alloc (.cells #[.int .u32 (key : Int), .slice A1 n1 c1] 56)).drewN Q).alloc (.cells #[] 56)).ownsRow (wr.heap.size + 1) 56 2 (.slice (some ⟨wr.heap.size + 1, 0, none⟩) 0 0) 0 []) := Lib.hid fun Q => made_row wr _ Q
                have HSB : Hid (∀ Q, wr.heap.size + 1 ≤ (((wr.alloc (.cells #[.int .u32 (key : Int), .slice A1 n1 c1] 56)).drewN Q).alloc (.cells #[] 56)).heap.size) := Lib.hid fun Q => made_size wr _ Q
                have HSW := Lib.hid HO.out.size
                have HROWi := Lib.hid HROW.out
                have hci : ¬ cv = i := hcv
                have hci2 : ¬ (cv - i = 0) := by omega
                go_wp2_with (first
                  | (at_builtin; refine wp_rows rfl (.tmp 48) (.tmp 51) 25 rfl (wr.heap.size + 1) 56 i0 (.agg #[.int .u32 0, .slice none 0 0]) 2 32 Try.underlying25 hi0 hz0 hz1 hz2 rfl (by decide) (.slice (some ⟨wr.heap.size + 1, 0, none⟩) 0 0) 0 [] rfl (HMK.out _) (.slice (some ⟨gA, 0, none⟩) i cv) i (cells2 ((acc.map cellE).take i)) rfl (HC1.out _) (by unfold maxLen; omega) (by omega) (HSB.out _) ?_
                     intro v4 w4 h4 hg4 hn4
                     rw [Nat.zero_add, List.nil_append] at h4
                     obtain ⟨g4, c4, rfl⟩ := own_form4 h4 (fun e => by have := (hn4.1 e).1; cases this)
                     have ho4 := made_only hg4
                     have hb4 := (ho4.block wr.heap.size (by simp) (by omega)).trans (heap_alloc_new _ _)
                     have HO4 := Lib.hid ho4
                     have H4 := Lib.hid h4
                     have d0 := tbox0 hb4
                     have d1 := tbox1 hb4
                     clear h4 hg4 hn4 ho4 hb4)
                  | (at_builtin; refine wp_rows rfl (.tmp 53) (.tmp 55) 25 rfl (wr.heap.size + 1) 56 i0 (.agg #[.int .u32 0, .slice none 0 0]) 2 32 Try.underlying25 hi0 hz0 hz1 hz2 rfl (by decide) _ i _ rfl (World.ownsRow.alloc H4.out _) _ 1 [.int .u32 (key : Int), .slice A1 n1 c1] rfl (.inr ⟨⟨w4.heap.size, 0, none⟩, 1, rfl, rfl, cell_two_new w4 _ _ _, by intro u hu; simp at hu; rcases hu with rfl | rfl <;> rfl⟩) (by unfold maxLen; omega) (by omega) (by have := HO4.out.size; simp at this ⊢; omega) ?_
                     intro v5 w5 h5 hg5 hn5
                     obtain ⟨g5, c5, rfl⟩ := own_form4 h5 (fun e => by have := (hn5.1 e).2; omega)
                     have HO5 : Hid (Only (fun j => wr.heap.size + 1 ≤ j) (wr.alloc (.cells #[.int .u32 (key : Int), .slice A1 n1 c1] 56)) w5) := Lib.hid ((HO4.out.alloc _).trans (Only.grown hg5 fun j e => (World.ownsRow.lt H4.out j e).1))
                     have H5 := Lib.hid h5
                     clear h5 hg5 hn5)
                  | (at_builtin; refine wp_rows rfl (.tmp 57) (.tmp 60) 25 rfl (wr.heap.size + 1) 56 i0 (.agg #[.int .u32 0, .slice none 0 0]) 2 32 Try.underlying25 hi0 hz0 hz1 hz2 rfl (by decide) _ (i + 1) _ rfl H5.out (.slice (some ⟨gA, i * 2, none⟩) (n - i) (cv - i)) (n - i) (cells2 ((acc.map cellE).drop i)) rfl (.inr ⟨_, _, rfl, by rw [cells2_len, List.length_drop, hlE], drop_cells hlE (by omega) (row_keep (World.ownsRow.alloc HROWi.out (.cells #[.int .u32 (key : Int), .slice A1 n1 c1] 56)) fun g hg => HO5.out.block g (by have := (World.ownsRow.lt HROWi.out g hg).2; simp; omega) (by have := (World.ownsRow.lt HROWi.out g hg).2; omega)), drop_one HOC.out i⟩) (by unfold maxLen; omega) (by omega) (by have := HO5.out.size; simp at this; omega) ?_
                     intro v7 w7 h7 hg7 hn7
                     rw [show i + 1 + (n - i) = n + 1 by omega] at h7
                     obtain ⟨g7, c7, rfl⟩ := own_form4 h7 (fun e => by have := (hn7.1 e).1; cases this)
                     have HO7 : Hid (Only (fun j => wr.heap.size + 1 ≤ j) (wr.alloc (.cells #[.int .u32 (key : Int), .slice A1 n1 c1] 56)) w7) := Lib.hid (HO5.out.trans (Only.grown hg7 fun j e => (World.ownsRow.lt H5.out j e).1))
                     have H7 := Lib.hid h7
                     clear h7 hg7 hn7)
                  | fail)
                go_roundw
                case rel =>
                  have h6 : Only (fun _ => False) w w7 := HO.out.trans (((Only.refl (fun _ => False) wr).alloc _).own (B := wr.heap.size + 1) HO7.out (Nat.le_succ _))
                  have hset := setT_ins ((key, val), .slice A1 n1 c1) acc i (by omega) hlow HSTOP.out
                  refine ⟨j + 1, hlt, rfl, LtR.next' HB.out hju HUJ.out HAC.out HOC.out (by rw [hn]; exact HAL.out) HO.out HXO.out HK32.out h6 ?_⟩
                  rw [hset]
                  exact ins_row H7.out hn (by omega) (by have := HSW.out; omega)
                case measure => exact msrI u.length j _ _ hlt rfl rfl
          · have hii : decide ((i : Int) < (n : Int)) = false := by simp; omega
            have HSTOP : Hid (∀ h : i < acc.length, key < acc[i].1.1) := Lib.hid fun h => by omega
            by_cases hcv : cv = i
            · go_wp2_with fail
              go_quiet (fail)
              go_wp2_with fail
              go_quiet (fail)
              have hlE : (acc.map cellE).length = n := by simp [hn]
              have HC1 : Hid (∀ Q, (.slice (some ⟨gA, 0, none⟩) i i = Value.slice none 0 0 ∧ i = 0 ∧ cells2 ((acc.map cellE).take i) = []) ∨ ∃ ad c, (.slice (some ⟨gA, 0, none⟩) i i : Value) = .slice (some ad) i c ∧ (cells2 ((acc.map cellE).take i)).length = i * 2 ∧ (∀ j u, (cells2 ((acc.map cellE).take i))[j]? = some u → (((wr.alloc (.cells #[.int .u32 (key : Int), .slice A1 n1 c1] 56)).drewN Q).alloc (.cells #[] 56)).cell? (ad.add j) = some u) ∧ ∀ u ∈ cells2 ((acc.map cellE).take i), u.oneCell' = true) := Lib.hid fun Q => .inr ⟨_, _, rfl, by rw [cells2_len, List.length_take, hlE]; congr 1; omega, take_cells hlE (by omega) (World.ownsRow.alloc (w := (wr.alloc (.cells #[.int .u32 (key : Int), .slice A1 n1 c1] 56)).drewN Q) (World.ownsRow.alloc HROW.out (.cells #[.int .u32 (key : Int), .slice A1 n1 c1] 56)) _), take_one HOC.out i⟩
              have HMK : Hid (∀ Q, (((wr.alloc (.cells #[.int .u32 (key : Int), .slice A1 n1 c1] 56)).drewN Q).alloc (.cells #[] 56)).ownsRow (wr.heap.size + 1) 56 2 (.slice (some ⟨wr.heap.size + 1, 0, none⟩) 0 0) 0 []) := Lib.hid fun Q => made_row wr _ Q
              have HSB : Hid (∀ Q, wr.heap.size + 1 ≤ (((wr.alloc (.cells #[.int .u32 (key : Int), .slice A1 n1 c1] 56)).drewN Q).alloc (.cells #[] 56)).heap.size) := Lib.hid fun Q => made_size wr _ Q
              have HSW := Lib.hid HO.out.size
              have HROWi := Lib.hid HROW.out
              have hci : cv = i := hcv
              go_wp2_with (first
                | (at_builtin; refine wp_rows rfl (.tmp 48) (.tmp 51) 25 rfl (wr.heap.size + 1) 56 i0 (.agg #[.int .u32 0, .slice none 0 0]) 2 32 Try.underlying25 hi0 hz0 hz1 hz2 rfl (by decide) (.slice (some ⟨wr.heap.size + 1, 0, none⟩) 0 0) 0 [] rfl (HMK.out _) (.slice (some ⟨gA, 0, none⟩) i i) i (cells2 ((acc.map cellE).take i)) rfl (HC1.out _) (by unfold maxLen; omega) (by omega) (HSB.out _) ?_
                   intro v4 w4 h4 hg4 hn4
                   rw [Nat.zero_add, List.nil_append] at h4
                   obtain ⟨g4, c4, rfl⟩ := own_form4 h4 (fun e => by have := (hn4.1 e).1; cases this)
                   have ho4 := made_only hg4
                   have hb4 := (ho4.block wr.heap.size (by simp) (by omega)).trans (heap_alloc_new _ _)
                   have HO4 := Lib.hid ho4
                   have H4 := Lib.hid h4
                   have d0 := tbox0 hb4
                   have d1 := tbox1 hb4
                   clear h4 hg4 hn4 ho4 hb4)
                | (at_builtin; refine wp_rows rfl (.tmp 53) (.tmp 55) 25 rfl (wr.heap.size + 1) 56 i0 (.agg #[.int .u32 0, .slice none 0 0]) 2 32 Try.underlying25 hi0 hz0 hz1 hz2 rfl (by decide) _ i _ rfl (World.ownsRow.alloc H4.out _) _ 1 [.int .u32 (key : Int), .slice A1 n1 c1] rfl (.inr ⟨⟨w4.heap.size, 0, none⟩, 1, rfl, rfl, cell_two_new w4 _ _ _, by intro u hu; simp at hu; rcases hu with rfl | rfl <;> rfl⟩) (by unfold maxLen; omega) (by omega) (by have := HO4.out.size; simp at this ⊢; omega) ?_
                   intro v5 w5 h5 hg5 hn5
                   obtain ⟨g5, c5, rfl⟩ := own_form4 h5 (fun e => by have := (hn5.1 e).2; omega)
                   have HO5 : Hid (Only (fun j => wr.heap.size + 1 ≤ j) (wr.alloc (.cells #[.int .u32 (key : Int), .slice A1 n1 c1] 56)) w5) := Lib.hid ((HO4.out.alloc _).trans (Only.grown hg5 fun j e => (World.ownsRow.lt H4.out j e).1))
                   have H5 := Lib.hid h5
                   clear h5 hg5 hn5)
                | (at_builtin; refine wp_rows rfl (.tmp 57) (.tmp 60) 25 rfl (wr.heap.size + 1) 56 i0 (.agg #[.int .u32 0, .slice none 0 0]) 2 32 Try.underlying25 hi0 hz0 hz1 hz2 rfl (by decide) _ (i + 1) _ rfl H5.out (.slice (some ⟨gA, 0, none⟩) (n - i) 0) (n - i) (cells2 ((acc.map cellE).drop i)) rfl (.inr ⟨_, _, rfl, by rw [cells2_len, List.length_drop, hlE], by rw [List.drop_of_length_le (by rw [hlE]; omega)]; intro j u h; simp [cells2] at h, drop_one HOC.out i⟩) (by unfold maxLen; omega) (by omega) (by have := HO5.out.size; simp at this; omega) ?_
                   intro v7 w7 h7 hg7 hn7
                   rw [show i + 1 + (n - i) = n + 1 by omega] at h7
                   obtain ⟨g7, c7, rfl⟩ := own_form4 h7 (fun e => by have := (hn7.1 e).1; cases this)
                   have HO7 : Hid (Only (fun j => wr.heap.size + 1 ≤ j) (wr.alloc (.cells #[.int .u32 (key : Int), .slice A1 n1 c1] 56)) w7) := Lib.hid (HO5.out.trans (Only.grown hg7 fun j e => (World.ownsRow.lt H5.out j e).1))
                   have H7 := Lib.hid h7
                   clear h7 hg7 hn7)
                | fail)
              go_roundw
              case rel =>
                have h6 : Only (fun _ => False) w w7 := HO.out.trans (((Only.refl (fun _ => False) wr).alloc _).own (B := wr.heap.size + 1) HO7.out (Nat.le_succ _))
                have hset := setT_ins ((key, val), .slice A1 n1 c1) acc i (by omega) hlow HSTOP.out
                refine ⟨j + 1, hlt, rfl, LtR.next' HB.out hju HUJ.out HAC.out HOC.out (by rw [hn]; exact HAL.out) HO.out HXO.out HK32.out h6 ?_⟩
                rw [hset]
                exact ins_row H7.out hn (by omega) (by have := HSW.out; omega)
              case measure => exact msrI u.length j _ _ hlt rfl rfl
            · go_wp2_with fail
              go_quiet (fail)
              go_wp2_with fail
              go_quiet (fail)
              have hlE : (acc.map cellE).length = n := by simp [hn]
              have HC1 : Hid (∀ Q, (.slice (some ⟨gA, 0, none⟩) i cv = Value.slice none 0 0 ∧ i = 0 ∧ cells2 ((acc.map cellE).take i) = []) ∨ ∃ ad c, (.slice (some ⟨gA, 0, none⟩) i cv : Value) = .slice (some ad) i c ∧ (cells2 ((acc.map cellE).take i)).length = i * 2 ∧ (∀ j u, (cells2 ((acc.map cellE).take i))[j]? = some u → (((wr.alloc (.cells #[.int .u32 (key : Int), .slice A1 n1 c1] 56)).drewN Q).alloc (.cells #[] 56)).cell? (ad.add j) = some u) ∧ ∀ u ∈ cells2 ((acc.map cellE).take i), u.oneCell' = true) := Lib.hid fun Q => .inr ⟨_, _, rfl, by rw [cells2_len, List.length_take, hlE]; congr 1; omega, take_cells hlE (by omega) (World.ownsRow.alloc (w := (wr.alloc (.cells #[.int .u32 (key : Int), .slice A1 n1 c1] 56)).drewN Q) (World.ownsRow.alloc HROW.out (.cells #[.int .u32 (key : Int), .slice A1 n1 c1] 56)) _), take_one HOC.out i⟩
              have HMK : Hid (∀ Q, (((wr.alloc (.cells #[.int .u32 (key : Int), .slice A1 n1 c1] 56)).drewN Q).alloc (.cells #[] 56)).ownsRow (wr.heap.size + 1) 56 2 (.slice (some ⟨wr.heap.size + 1, 0, none⟩) 0 0) 0 []) := Lib.hid fun Q => made_row wr _ Q
              have HSB : Hid (∀ Q, wr.heap.size + 1 ≤ (((wr.alloc (.cells #[.int .u32 (key : Int), .slice A1 n1 c1] 56)).drewN Q).alloc (.cells #[] 56)).heap.size) := Lib.hid fun Q => made_size wr _ Q
              have HSW := Lib.hid HO.out.size
              have HROWi := Lib.hid HROW.out
              have hci : ¬ cv = i := hcv
              have hci2 : ¬ (cv - i = 0) := by omega
              go_wp2_with (first
                | (at_builtin; refine wp_rows rfl (.tmp 48) (.tmp 51) 25 rfl (wr.heap.size + 1) 56 i0 (.agg #[.int .u32 0, .slice none 0 0]) 2 32 Try.underlying25 hi0 hz0 hz1 hz2 rfl (by decide) (.slice (some ⟨wr.heap.size + 1, 0, none⟩) 0 0) 0 [] rfl (HMK.out _) (.slice (some ⟨gA, 0, none⟩) i cv) i (cells2 ((acc.map cellE).take i)) rfl (HC1.out _) (by unfold maxLen; omega) (by omega) (HSB.out _) ?_
                   intro v4 w4 h4 hg4 hn4
                   rw [Nat.zero_add, List.nil_append] at h4
                   obtain ⟨g4, c4, rfl⟩ := own_form4 h4 (fun e => by have := (hn4.1 e).1; cases this)
                   have ho4 := made_only hg4
                   have hb4 := (ho4.block wr.heap.size (by simp) (by omega)).trans (heap_alloc_new _ _)
                   have HO4 := Lib.hid ho4
                   have H4 := Lib.hid h4
                   have d0 := tbox0 hb4
                   have d1 := tbox1 hb4
                   clear h4 hg4 hn4 ho4 hb4)
                | (at_builtin; refine wp_rows rfl (.tmp 53) (.tmp 55) 25 rfl (wr.heap.size + 1) 56 i0 (.agg #[.int .u32 0, .slice none 0 0]) 2 32 Try.underlying25 hi0 hz0 hz1 hz2 rfl (by decide) _ i _ rfl (World.ownsRow.alloc H4.out _) _ 1 [.int .u32 (key : Int), .slice A1 n1 c1] rfl (.inr ⟨⟨w4.heap.size, 0, none⟩, 1, rfl, rfl, cell_two_new w4 _ _ _, by intro u hu; simp at hu; rcases hu with rfl | rfl <;> rfl⟩) (by unfold maxLen; omega) (by omega) (by have := HO4.out.size; simp at this ⊢; omega) ?_
                   intro v5 w5 h5 hg5 hn5
                   obtain ⟨g5, c5, rfl⟩ := own_form4 h5 (fun e => by have := (hn5.1 e).2; omega)
                   have HO5 : Hid (Only (fun j => wr.heap.size + 1 ≤ j) (wr.alloc (.cells #[.int .u32 (key : Int), .slice A1 n1 c1] 56)) w5) := Lib.hid ((HO4.out.alloc _).trans (Only.grown hg5 fun j e => (World.ownsRow.lt H4.out j e).1))
                   have H5 := Lib.hid h5
                   clear h5 hg5 hn5)
                | (at_builtin; refine wp_rows rfl (.tmp 57) (.tmp 60) 25 rfl (wr.heap.size + 1) 56 i0 (.agg #[.int .u32 0, .slice none 0 0]) 2 32 Try.underlying25 hi0 hz0 hz1 hz2 rfl (by decide) _ (i + 1) _ rfl H5.out (.slice (some ⟨gA, i * 2, none⟩) (n - i) (cv - i)) (n - i) (cells2 ((acc.map cellE).drop i)) rfl (.inr ⟨_, _, rfl, by rw [cells2_len, List.length_drop, hlE], drop_cells hlE (by omega) (row_keep (World.ownsRow.alloc HROWi.out (.cells #[.int .u32 (key : Int), .slice A1 n1 c1] 56)) fun g hg => HO5.out.block g (by have := (World.ownsRow.lt HROWi.out g hg).2; simp; omega) (by have := (World.ownsRow.lt HROWi.out g hg).2; omega)), drop_one HOC.out i⟩) (by unfold maxLen; omega) (by omega) (by have := HO5.out.size; simp at this; omega) ?_
                   intro v7 w7 h7 hg7 hn7
                   rw [show i + 1 + (n - i) = n + 1 by omega] at h7
                   obtain ⟨g7, c7, rfl⟩ := own_form4 h7 (fun e => by have := (hn7.1 e).1; cases this)
                   have HO7 : Hid (Only (fun j => wr.heap.size + 1 ≤ j) (wr.alloc (.cells #[.int .u32 (key : Int), .slice A1 n1 c1] 56)) w7) := Lib.hid (HO5.out.trans (Only.grown hg7 fun j e => (World.ownsRow.lt H5.out j e).1))
                   have H7 := Lib.hid h7
                   clear h7 hg7 hn7)
                | fail)
              go_roundw
              case rel =>
                have h6 : Only (fun _ => False) w w7 := HO.out.trans (((Only.refl (fun _ => False) wr).alloc _).own (B := wr.heap.size + 1) HO7.out (Nat.le_succ _))
                have hset := setT_ins ((key, val), .slice A1 n1 c1) acc i (by omega) hlow HSTOP.out
                refine ⟨j + 1, hlt, rfl, LtR.next' HB.out hju HUJ.out HAC.out HOC.out (by rw [hn]; exact HAL.out) HO.out HXO.out HK32.out h6 ?_⟩
                rw [hset]
                exact ins_row H7.out hn (by omega) (by have := HSW.out; omega)
              case measure => exact msrI u.length j _ _ hlt rfl rfl
    · obtain rfl : j = u.length := by omega
      have hlt' : ¬ ((u.length : Int) < (u.length : Int)) := by omega
      go_wp2_with fail
      go_ret
      exact ⟨_, rfl, acc, HAC.out, HOC.out, HAL.out, HO.out, hrow⟩
end Go.Proofs.Ythlfepgcjomhpaa.Kf
