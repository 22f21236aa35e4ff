/- FnReadTags: what the law's own functions tell of tags. -/
import Derived.Test.YthlfepgcjomhpaaRtE
import Derived.Test.YthlfepgcjomhpaaLawB
namespace Go.Proofs.Ythlfepgcjomhpaa.Kf
set_option linter.unusedVariables false
set_option linter.unusedSimpArgs false
open Go Go.RowKit

/-- A row of tags that was made, as tags in memory. -/
theorem tgs_row {base e B : Nat} {wr : World} {v : Value} {acc : List TV} (h4 : wr.ownsRow base e 2 v acc.length (cells2 (acc.map cellE))) (hoc : ∀ e ∈ acc, Oc wr B e.2 e.1.2 ∧ e.1.1 < 4294967296) (hB : B ≤ wr.heap.size) : TgsC wr wr.heap.size (acc.map Prod.fst) v := by
  have hlt := World.ownsRow.lt h4
  have hc : ∀ g, v.ownBlock = some g → ∀ j x, (cells2 (acc.map cellE))[j]? = some x → wr.cell? ((⟨g, 0, none⟩ : Addr).add j) = some x := fun g hg => World.ownsRow.cells h4 hg
  refine ⟨fT acc, ?_, ?_⟩
  · rcases h4.2 with ⟨rfl, h0⟩ | ⟨g, cap, cur, rfl, _, hg, hn, _⟩
    · exact .inl ⟨rfl, by simpa using h0⟩
    · refine .inr ⟨⟨g, 0, none⟩, cap, by simp, by simpa using hn, fun j hj => ?_⟩
      have hj' : j < acc.length := by simpa using hj
      refine ⟨(hlt g rfl).2, by rw [fT_eq (List.getElem?_eq_getElem hj')]; rfl, fun k x hk => ?_⟩
      rw [fT_eq (List.getElem?_eq_getElem hj')] at hk
      rw [add_add]
      refine hc g rfl _ _ ?_
      have f1 := cells2_fst (acc.map cellE) j (by simpa using hj')
      have f2 := cells2_snd (acc.map cellE) j (by simpa using hj')
      match k, hk with
      | 0, hk => rw [Nat.add_zero, f1]; simpa [cellE] using hk
      | 1, hk => rw [f2]; simpa [cellE] using hk
  · intro j x hj
    rw [List.getElem?_map] at hj
    cases ha : acc[j]? with
    | none => rw [ha] at hj; cases hj
    | some e =>
      rw [ha] at hj
      simp at hj; subst hj
      have := hoc e (List.mem_of_getElem? ha)
      exact ⟨this.2, e.2, fT_eq ha, this.1.more hB⟩
theorem LtR.tgs {w wr : World} {B : Nat} {u : List (Nat × List UInt8)} {v : Value} (h : LtR w B u u.length v wr) (hB : B ≤ w.heap.size) : TgsC wr wr.heap.size (lastT u) v ∧ Only (fun _ => False) w wr := by
  obtain ⟨acc, h1, h2, _, h3, h4⟩ := h
  rw [List.take_length] at h1
  rw [← h1]
  exact ⟨tgs_row h4 h2 (Nat.le_trans hB h3.size), h3⟩
theorem TL.tgs {base : Nat} {w : World} {v : Value} {acc : List TV} (h : TL base w v acc) (hk : ∀ e ∈ acc, e.1.1 < 4294967296) : TgsC w w.heap.size (acc.map Prod.fst) v :=
  tgs_row h.1 (fun e he => ⟨(h.2 e he).oc, hk e he⟩) (Nat.le_refl _)

set_option maxRecDepth 100000 in
theorem fits6 (w : World) (k : Int) (A : Option Addr) (n c : Nat) : Calls Try.prog 21 #[.agg #[.int .u32 k, .slice A n c]] w (BoolP w) := by
  go_enter Try.func21, Try.ntmps21
  go_wp2_with fail
  all_goals go_ret
  all_goals exact ⟨_, rfl, (Only.refl _ _).alloc _⟩
def Fit5 (w : World) (u : List (Nat × List UInt8)) (e : Ending) (w' : World) : Prop := ∃ b : Bool, e = .returned (.bool b) ∧ (b = true → u.length ≤ 2147483647) ∧ Only (fun _ => False) w w'
set_option maxRecDepth 100000 in
theorem fits5 (w : World) (B : Nat) (u : List (Nat × List UInt8)) (v : Value) (hB : B ≤ w.heap.size) (hU : TgsC w B u v) : Calls Try.prog 5 #[v] w (Fit5 w u) := by
  obtain ⟨ff, hsl, hel⟩ := id hU
  obtain ⟨A, c, rfl, _⟩ := hsl.sl
  have HB := Lib.hid hB
  have HU := Lib.hid hU
  clear hB hU hsl hel
  by_cases hbig : ((u.length : Int) > 2147483647)
  · go_enter Try.func5, Try.ntmps5
    go_wp2_with fail
    go_ret
    exact ⟨false, rfl, by simp, Only.refl _ _⟩
  go_enter Try.func5, Try.ntmps5
  go_wp2_with fail
  go_loopw [10] (fun i wr => ∃ k : Nat, k ≤ u.length ∧ i = .int .i64 k ∧ Only (fun _ => False) w wr) (fun i _ => u.length - (intOf i).toNat)
  case atStart => exact ⟨0, Nat.zero_le _, rfl, Only.refl _ _⟩
  case round =>
    obtain ⟨k, hk, rfl, honly⟩ := hrel
    have HW := Lib.hid honly
    by_cases hlt : k < u.length
    · obtain ⟨b, o, A1, n1, c1, rfl, _, hbB, _, _, x0, x1⟩ := (TgsC.keepU HU.out (honly.kept0 HB.out)).at_ hlt
      clear honly
      generalize (u[k].1 : Int) = key at x0
      have HbB := Lib.hid hbB
      have hb' : b < wr.heap.size := by have := HB.out; have := HW.out.size; omega
      clear hbB
      have hlt' : (k : Int) < (u.length : Int) := by omega
      have hw64 : wrap64 ((k : Int) + 1) = (k : Int) + 1 := by unfold wrap64; omega
      go_wp2_with (go_at_call 21; refine (fits6 _ _ _ _ _).mono ?_; rintro e1 w1 ⟨bb, rfl, hw1⟩; have HW1 := Lib.hid hw1; clear hw1; cases bb)
      · go_ret
        exact ⟨false, rfl, by simp, HW.out.trans (((Only.refl (fun _ => False) wr).alloc _).trans HW1.out)⟩
      · go_roundw
        case rel => exact ⟨k + 1, hlt, by go_num, HW.out.trans (((Only.refl (fun _ => False) wr).alloc _).trans HW1.out)⟩
        case measure => simp [intOf]; omega
    · clear honly
      have hk2 : k = u.length := by omega
      subst hk2
      have hlt' : ¬ ((u.length : Int) < (u.length : Int)) := by omega
      go_wp2_with fail
      go_ret
      exact ⟨true, rfl, fun _ => by omega, HW.out⟩

/-- What tagsFit tells. -/
def FitP (w : World) (u : List (Nat × List UInt8)) (e : Ending) (w' : World) : Prop := ∃ b : Bool, e = .returned (.bool b) ∧ (b = true → u.length ≤ 50 ∧ ∀ x ∈ u, x.2.length ≤ 2000) ∧ Only (fun _ => False) w w'
set_option maxRecDepth 100000 in
theorem tags_fit (w : World) (B : Nat) (u : List (Nat × List UInt8)) (v : Value) (hB : B ≤ w.heap.size) (hU : TgsC w B u v) (hlen : u.length ≤ 2147483647) : Calls Try.prog 6 #[v] w (FitP w u) := by
  obtain ⟨ff, hsl, hel⟩ := id hU
  obtain ⟨A, c, rfl, _⟩ := hsl.sl
  have HB := Lib.hid hB
  have HU := Lib.hid hU
  clear hB hU hsl hel
  go_enter Try.func6, Try.ntmps6
  go_wp2_with fail
  go_loopw [7] (fun i wr => ∃ k : Nat, k ≤ u.length ∧ i = .int .i64 k ∧ (∀ i (h : i < u.length), i < k → u[i].2.length ≤ 2000) ∧ Only (fun _ => False) w wr) (fun i _ => u.length - (intOf i).toNat)
  case atStart => exact ⟨0, Nat.zero_le _, rfl, fun _ _ h => by omega, Only.refl _ _⟩
  case round =>
    obtain ⟨k, hk, rfl, hlow, honly⟩ := hrel
    have HW := Lib.hid honly
    have HLOW := Lib.hid hlow
    clear hlow
    by_cases hlt : k < u.length
    · obtain ⟨b, o, A1, n1, c1, rfl, _, hbB, _, hocx, x0, x1⟩ := (TgsC.keepU HU.out (honly.kept0 HB.out)).at_ hlt
      clear honly
      have hn1 : n1 = u[k].2.length := by obtain ⟨A', c', e, _⟩ := hocx.sl; injection e
      have HN1 := Lib.hid hn1
      clear hn1 hocx
      generalize (u[k].1 : Int) = key at x0
      have HbB := Lib.hid hbB
      have hb' : b < wr.heap.size := by have := HB.out; have := HW.out.size; omega
      clear hbB
      have hlt' : (k : Int) < (u.length : Int) := by omega
      have hw64 : wrap64 ((k : Int) + 1) = (k : Int) + 1 := by unfold wrap64; omega
      by_cases hbig : ((n1 : Int) > 2000)
      · go_wp2_with fail
        go_ret
        exact ⟨false, rfl, by simp, HW.out.alloc _⟩
      · go_wp2_with fail
        go_roundw
        case rel =>
          refine ⟨k + 1, hlt, by go_num, fun i hi hik => ?_, HW.out.alloc _⟩
          by_cases e : i = k
          · subst e; have := HN1.out; omega
          · exact HLOW.out i hi (by omega)
        case measure => simp [intOf]; omega
    · clear honly
      have hk2 : k = u.length := by omega
      subst hk2
      have hlt' : ¬ ((u.length : Int) < (u.length : Int)) := by omega
      go_wp2_with fail
      go_ret
      refine ⟨_, rfl, fun h => ⟨by simp at h; omega, fun x hx => ?_⟩, HW.out⟩
      obtain ⟨i, hi, rfl⟩ := List.getElem_of_mem hx
      exact HLOW.out i hi hi

/-- Tags so far, as they are. -/
def AsR (w : World) (B : Nat) (l : List (Nat × List UInt8)) (v : Value) (wr : World) : Prop :=
  ∃ acc : List TV, acc.map Prod.fst = l ∧ (∀ e ∈ acc, Oc wr B e.2 e.1.2 ∧ e.1.1 < 4294967296) ∧ Only (fun _ => False) w wr ∧ wr.ownsRow w.heap.size 56 2 v acc.length (cells2 (acc.map cellE))
theorem AsR.next {w wr w6 : World} {B j key n1 c1 : Nat} {u : List (Nat × List UInt8)} {val : List UInt8} {v' : Value} {A1 : Option Addr} {acc : List TV} (hB : B ≤ w.heap.size) (hj : j < u.length) (hu : u[j] = (key, val)) (hac : acc.map Prod.fst = u.take j) (hoc : ∀ e ∈ acc, Oc wr B e.2 e.1.2 ∧ e.1.1 < 4294967296) (ho : Only (fun _ => False) w wr)
    (hx : Oc wr B (.slice A1 n1 c1) val) (hk : key < 4294967296) (h6 : Only (fun _ => False) w w6) (hrow : w6.ownsRow w.heap.size 56 2 v' (acc.length + 1) (cells2 (acc.map cellE) ++ [.int .u32 (key : Int), .slice A1 n1 c1])) : AsR w B (u.take (j + 1)) v' w6 := by
  have hk2 : Kept B wr w6 := Kept.via (ho.kept0 hB) (h6.kept0 hB)
  refine ⟨acc ++ [((key, val), .slice A1 n1 c1)], ?_, fun e hm => ?_, h6, ?_⟩
  · rw [List.map_append, hac, List.take_succ_eq_append_getElem hj, hu]; rfl
  · rcases List.mem_append.1 hm with hm | hm
    · exact ⟨(hoc e hm).1.keep hk2, (hoc e hm).2⟩
    · have e1 : e = ((key, val), .slice A1 n1 c1) := by simpa using hm
      subst e1
      exact ⟨hx.keep hk2, hk⟩
  · rw [List.length_append, List.map_append, cells2_app]
    exact hrow
set_option maxRecDepth 100000 in
theorem tags_of (w : World) (B : Nat) (u : List (Nat × List UInt8)) (v : Value) (hB : B ≤ w.heap.size) (hU : TgsC w B u v) (hlen : u.length ≤ 32767) :
    Calls Try.prog 8 #[v] w fun e w' => ∃ vv, e = .returned vv ∧ TgsC w' w'.heap.size u vv ∧ Only (fun _ => False) w w' := by
  obtain ⟨i0, hi, hz0, hz1, hz2⟩ := info_parts info_tagm
  have HB := Lib.hid hB
  obtain ⟨fu, hsu, _⟩ := id hU
  obtain ⟨AU, cU, rfl, hcU⟩ := hsu.sl
  have HU := Lib.hid hU
  clear hB hU hsu
  go_enter Try.func8, Try.ntmps8
  go_wp2_with fail
  go_loopw [3, 8] (fun v i wr => ∃ j : Nat, j ≤ u.length ∧ i = .int .i64 j ∧ AsR w B (u.take j) v wr) (fun _ i _ => u.length - (intOf i).toNat)
  case atStart => exact ⟨0, Nat.zero_le _, rfl, [], rfl, by simp, Only.refl _ _, World.ownsRow_nil _ _ _ _⟩
  case round =>
    obtain ⟨j, hj, rfl, acc, hac, hoc, honly, hrow⟩ := hrel
    obtain ⟨A0, c0, rfl, _⟩ := owns_slice hrow
    have hal : acc.length = j := by have := congrArg List.length hac; simp at this; omega
    have HAC := Lib.hid hac
    have HOC := Lib.hid hoc
    have HO := Lib.hid honly
    have HROW := Lib.hid hrow
    clear hac hoc hrow
    by_cases hlt : j < u.length
    · have hju : j < u.length := hlt
      obtain ⟨b, o, A1, n1, c1, rfl, _, hbB, hk32, hocx, ck, cx⟩ := (TgsC.keepU HU.out (honly.kept0 HB.out)).at_ hju
      obtain ⟨uj, huj⟩ : ∃ uj, u[j] = uj := ⟨_, rfl⟩
      rw [huj] at ck hk32 hocx
      obtain ⟨key, val⟩ := uj
      have HUJ := Lib.hid huj
      have HXO := Lib.hid hocx
      have HK32 := Lib.hid hk32
      have hbl : b < wr.heap.size := by have := HB.out; have := honly.size; omega
      clear hocx hk32 honly huj
      simp only at ck cx
      have hlt' : ((j : Int) < (u.length : Int)) := by omega
      have e9 : wrap64 ((j : Int) + 1) = (j : Int) + 1 := by unfold wrap64; omega
      have hi0 := hi
      clear hi
      have HCN : Hid (∀ k x, [Value.int .u32 (key : Int), .slice A1 n1 c1][k]? = some x → ((wr.alloc (.cells #[.int .u32 (key : Int), .slice A1 n1 c1] 53)).alloc (.cells #[.int .u32 (key : Int), .slice A1 n1 c1] 56)).cell? ((⟨wr.heap.size + 1, 0, none⟩ : Addr).add k) = some x) := Lib.hid (by
        have := cell_two_new (wr.alloc (.cells #[.int .u32 (key : Int), .slice A1 n1 c1] 53)) (.int .u32 (key : Int)) (.slice A1 n1 c1) 56
        simpa using this)
      have HSW := Lib.hid HO.out.size
      go_wp2_with (first
        | (at_builtin; refine wp_rows rfl (.tmp 12) (.tmp 18) 25 rfl w.heap.size 56 i0 (.agg #[.int .u32 0, .slice none 0 0]) 2 32 Try.underlying25 hi0 hz0 hz1 hz2 rfl (by decide) _ acc.length _ rfl (World.ownsRow.alloc (World.ownsRow.alloc HROW.out _) _) _ 1 [.int .u32 (key : Int), .slice A1 n1 c1] rfl (.inr ⟨⟨wr.heap.size + 1, 0, none⟩, 1, rfl, rfl, HCN.out, by intro u hu; simp at hu; rcases hu with rfl | rfl <;> rfl⟩) (by unfold maxLen; omega) (by omega) (by have := HSW.out; simp; omega) ?_
           intro v5 w5 h5 hg5 hn5
           have HO5 : Hid (Only (fun j => w.heap.size ≤ j) ((wr.alloc (.cells #[.int .u32 (key : Int), .slice A1 n1 c1] 53)).alloc (.cells #[.int .u32 (key : Int), .slice A1 n1 c1] 56)) w5) := Lib.hid (Only.grown hg5 fun j e => (World.ownsRow.lt HROW.out j e).1)
           have H5 := Lib.hid h5
           clear h5 hg5 hn5)
        | fail)
      go_roundw
      case rel => exact ⟨j + 1, hlt, rfl, AsR.next HB.out hju HUJ.out HAC.out HOC.out HO.out HXO.out HK32.out (((HO.out.alloc _).alloc _).own (B := w.heap.size) HO5.out (Nat.le_refl _)) H5.out⟩
      case measure => exact msrI u.length j _ _ hlt rfl rfl
    · clear honly
      obtain rfl : j = u.length := by omega
      have hlt' : ¬ ((u.length : Int) < (u.length : Int)) := by omega
      go_wp2_with fail
      go_ret
      have h := tgs_row HROW.out HOC.out (Nat.le_trans HB.out HO.out.size)
      rw [HAC.out, List.take_length, hal] at h
      exact ⟨_, rfl, h, HO.out⟩
end Go.Proofs.Ythlfepgcjomhpaa.Kf
