/- The thin package: ReadTags and SkipTags of a reader over octets. -/
import Derived.Test.YthlfepgcjomhpaaRtA
import Derived.Test.YthlfepgcjomhpaaRtB
namespace Go.Proofs.Ythlfepgcjomhpaa.Kf
set_option linter.unusedVariables false
set_option linter.unusedSimpArgs false
open Go Go.RowKit

theorem each_nil {b : Nat} {w : World} {fv : Value} (hc : w.cell? ⟨b, 0, none⟩ = some (.map none)) :
    Calls Try.prog 34 #[.pointer (some ⟨b, 0, none⟩), fv] w fun e w' => e = .returned (.tuple #[]) ∧ w' = w := by
  go_enter Try.func34, Try.ntmps34
  go_wp2
  refine bodyPost_ret (results_none rfl _ _ _) rfl ?_
  exact ⟨rfl, rfl⟩
theorem each_empty' {b r D : Nat} {w : World} {fv : Value} (hc : w.cell? ⟨b, 0, none⟩ = some (.map (some r))) (hm : MapAt w D r []) :
    Calls Try.prog 34 #[.pointer (some ⟨b, 0, none⟩), fv] w fun e w' => e = .returned (.tuple #[]) ∧ w' = w := by
  have hL := (hm.owns und_tgK trivial (by decide)).len Try.underlying61 3
  rw [tagD_size] at hL
  clear hm
  go_enter Try.func34, Try.ntmps34
  go_wp2
  refine bodyPost_ret (results_none rfl _ _ _) rfl ?_
  exact ⟨rfl, rfl⟩

/-- What impl.tagged comes to. -/
def TgdP (w : World) (l : List (Nat × List UInt8)) (e : Ending) (w' : World) : Prop :=
  ∃ (v : Value) (acc : List TV), e = .returned v ∧ TL w.heap.size w' v acc ∧ acc.map Prod.fst = l ∧ Only (fun _ => False) w w'
set_option maxRecDepth 100000 in
theorem tagged_c {D lo hi : Nat} {w : World} {tv : Value} {l : List (Nat × List UInt8)} {cur : Array Value} {fr : Nat × Nat} (hx : LTags D w lo hi [tv] (.tags l)) (hu : upTags 0 l) (hl : l.length ≤ 65536) (hv : ∀ x ∈ l, x.2.length ≤ 65536)
    (hhi : hi ≤ w.heap.size) (hDb : w.heap[D]? = some (.cells cur 5 fr)) :
    Calls Try.prog 23 #[.agg #[tv]] w (TgdP w l) := by
  have hD : D < w.heap.size := lt_of_block hDb
  obtain ⟨W2, hW2⟩ : ∃ W2, (w.alloc (.cells #[tv] 63)).alloc (.cells #[.slice none 0 0] 22) = W2 := ⟨_, rfl⟩
  have o2 : Only (fun _ => False) w W2 := by rw [← hW2]; exact ((Only.refl _ _).alloc _).alloc _
  have hs2 : W2.heap.size = w.heap.size + 2 := by rw [← hW2]; simp
  have b0 : W2.heap[w.heap.size]? = some (.cells #[tv] 63 (0, 0)) := by rw [← hW2]; exact heap_alloc_old3 (heap_alloc_new _ _)
  have b1 : BBt (w.heap.size + 1) W2 (.slice none 0 0) := by
    have := heap_alloc_new (w.alloc (.cells #[tv] 63)) (.cells #[.slice none 0 0] 22)
    rw [← hW2]
    unfold BBt
    simpa using this
  have hD2 : W2.heap[D]? = some (.cells cur 5 fr) := (o2.block D hD id).trans hDb
  have cE : Calls Try.prog 34 #[.pointer (some ⟨w.heap.size, 0, none⟩), .func (.func 35) #[] #[.pointer (some ⟨w.heap.size + 1, 0, none⟩)]] W2
      fun e w' => e = .returned (.tuple #[]) ∧ Only (fun j => w.heap.size + 1 ≤ j) W2 w' ∧ ∃ v acc, BBt (w.heap.size + 1) w' v ∧ TL (w.heap.size + 1) w' v acc ∧ acc.map Prod.fst = l := by
    have hnil : ∀ W, TL (w.heap.size + 1) W (.slice none 0 0) [] := fun W => ⟨World.ownsRow_nil _ _ _ _, fun e he => by cases he⟩
    have hst0 : StT (w.heap.size + 1) (w.heap.size + 1) D (some (.cells cur 5 fr)) l 0 W2 := ⟨by omega, hD2, _, [], b1, hnil _, rfl⟩
    obtain ⟨l', e', h⟩ := hx
    cases e'
    rcases h with ⟨rfl, e1⟩ | ⟨r, e1, _, hr, hm⟩
    · obtain rfl : tv = .map none := by simpa using e1
      exact (each_nil (cell_of_one b0)).mono fun e w' ⟨h1, h2⟩ => by subst h2; exact ⟨h1, Only.refl _ _, _, [], b1, hnil _, rfl⟩
    · obtain rfl : tv = .map (some r) := by simpa using e1
      have hm2 : MapAt W2 D r l := hm.keep (o2.block D hD id) (o2.block r (by omega) id)
      by_cases hne : l = []
      · subst hne
        exact (each_empty' (cell_of_one b0) hm2).mono fun e w' ⟨h1, h2⟩ => by subst h2; exact ⟨h1, Only.refl _ _, _, [], b1, hnil _, rfl⟩
      · refine (each_gen (base := w.heap.size + 1) (Bd := w.heap.size + 1) (St := StT (w.heap.size + 1) (w.heap.size + 1) D (some (.cells cur 5 fr)) l) (fun k => stT_stb (by decide) (by decide) l k) (cell_of_one b0) hm2 hne hu (by omega) hst0 (by omega) (by omega) (by omega) (by omega) ?_).mono ?_
        · intro k hk wr v nn hS hb hsp
          exact tagged1 hS hk hb (Nat.le_refl _) (by omega) hsp (hv _ (List.getElem_mem hk)) hl
        · rintro e w' ⟨h1, h2, _, _, v, acc, h3, h4, h5⟩
          exact ⟨h1, h2, v, acc, h3, h4, by rw [h5, List.take_length]⟩
  have O2 := Lib.hid o2
  clear hx hu hl hv hDb hD2 b0 b1 o2 hD
  go_enter Try.func23, Try.ntmps23
  have HC := Lib.hid cE
  clear cE
  go_wp2_with (first
    | (go_at_call 34; refine HC.out.mono ?_; rintro e1 w1 ⟨rfl, ho1, v, acc, hb1, ht1, hm1⟩; have co := cell_of_one hb1; have HO1 := Lib.hid ho1; have HT1 := Lib.hid ht1; have HM1 := Lib.hid hm1; clear ho1 ht1 hm1 hb1 HC)
    | fail)
  go_ret
  have hb : w.heap.size ≤ w.heap.size + 1 := Nat.le_succ _
  refine ⟨v, acc, rfl, ⟨⟨HT1.out.1.1, ?_⟩, fun e he => (HT1.out.2 e he).lower hb⟩, HM1.out, ?_⟩
  · rcases HT1.out.1.2 with h | ⟨g, cap, cur, h1, h2, h3⟩
    · exact .inl h
    · exact .inr ⟨g, cap, cur, h1, by omega, h3⟩
  · exact O2.out.own (B := w.heap.size + 1) HO1.out hb

theorem rd_ok : OkC Try.prog 24 := by
  refine ⟨⟨_, Try.func24, rfl, rfl⟩, fun D rb w nn bs bad h => ?_⟩
  obtain ⟨sv, e, hb, hs, hD, hbad⟩ := h
  obtain ⟨c0, c1, f0, f1⟩ := RB.cells hb
  clear hb hs hbad
  go_enter Try.func24, Try.ntmps24
  go_wp2
  go_ret
  exact ⟨_, rfl, rfl, Only.refl _ _⟩

theorem atNew' {w w' : World} (h : Only (fun j => w.heap.size ≤ j) w w') : Only (fun _ => False) w w' := ⟨h.os, h.tape, h.output, h.size, fun k hk _ => h.block k hk (by omega)⟩
theorem RB_new (w : World) (v : Value) (e : Nat) : RB w.heap.size (w.alloc (.cells #[v, .bool false] e)) v false e := heap_alloc_new _ _
theorem own_sp {base : Nat} {w : World} {v : Value} {s : List UInt8} (h : Own 5 base w v s) (hne : s ≠ []) : ∃ g c cur, v = .slice (some ⟨g, 0, none⟩) s.length c ∧ base ≤ g ∧ w.heap[g]? = some (.cells cur 5 (0, 0)) ∧ Sp w g true v s := by
  have hcell : ∀ g, v.ownBlock = some g → ∀ j u, (s.map u8v)[j]? = some u → w.cell? ((⟨g, 0, none⟩ : Addr).add j) = some u := fun g hg => World.ownsRow.cells h hg
  rcases h.2 with ⟨_, h0⟩ | ⟨g, cap, cur, rfl, hg, hh, hn, _⟩
  · exact absurd (List.eq_nil_of_length_eq_zero h0) hne
  · refine ⟨g, cap, cur, rfl, hg, hh, .inr ⟨rfl, 0, cap, rfl, hn, fun j b hb => ?_⟩⟩
    have := hcell g rfl j (u8v b) (by simp [hb])
    have e1 : (⟨g, 0, none⟩ : Addr).add j = ⟨g, 0 + j, none⟩ := by simp [Addr.add]; intro h; exact h.symm
    rw [e1] at this
    exact this
theorem rest_of {D rb : Nat} {bs rest : List UInt8} {w' : World} {H : Val → Prop} {x : Val} (h : Comes1 D rb bs false w' RK.tags.dec H) (hd : RK.tags.dec bs = some (x, rest)) : H x ∧ ∃ nn, Rd D rb w' nn rest false := by
  rcases h with ⟨_, y, bs', h1, _, h2, h3⟩ | ⟨h1, _⟩
  · rw [hd] at h1
    cases h1
    exact ⟨h2, h3⟩
  · rcases h1 with h1 | h1
    · cases h1
    · rw [hd] at h1; cases h1

set_option maxRecDepth 100000 in
set_option maxHeartbeats 1000000 in
theorem sk_impl {w : World} {v : Value} {data rest : List UInt8} {x : Val} (hv : Oc w w.heap.size v data) (hne : data ≠ []) (hd : RK.tags.dec data = some (x, rest)) (hl : data.length ≤ 1000000) :
    Calls Try.prog 12 #[v] w fun e w' => e = .returned (.tuple #[.int .i64 rest.length, .bool true]) ∧ Only (fun _ => False) w w' := by
  obtain ⟨i0, hi, hz0, hz1, hz2⟩ := info_u8
  have HV := Lib.hid hv
  obtain ⟨A, c, rfl, _⟩ := hv.sl
  have HLE : Hid (([] : List UInt8).length + data.length ≤ lim2) := Lib.hid (by unfold lim2; simp; omega)
  have HNE := Lib.hid hne
  have cS := Lib.hid (fun (D rb : Nat) (w1 : World) (h : Rd D rb w1 true data false) => (sk_calls h (by unfold lim; omega)).mono (R' := fun e w' => e = .returned (.tuple #[]) ∧ Only (· = rb) w1 w' ∧ ∃ nn, Rd D rb w' nn rest false) fun e w' ⟨h1, h2, nn, bs', bad', h3, h4⟩ => by
    obtain ⟨rfl, rfl⟩ := h4 x rest rfl hd
    exact ⟨h1, h2, nn, h3⟩)
  clear hv hne hd
  go_enter Try.func12, Try.ntmps12
  go_wp2_with (first
    | (at_builtin; refine wp_app_oc rfl _ _ 23 rfl Try.underlying23 hi hz0 hz1 hz2 (base := w.heap.size) (v := .slice none 0 0) (ds := []) rfl (World.ownsRow_nil _ _ _ _) rfl HV.out (Nat.le_refl _) HLE.out ?_; intro v1 w1 ho1 hw1; obtain ⟨g, cg, cur, rfl, hgb, hgh, hsp⟩ := own_sp ho1 HNE.out; have hrd : Rd g w1.heap.size (w1.alloc (.cells #[.slice (some ⟨g, 0, none⟩) data.length cg, .bool false] 60)) true data false := Rd.go (RB_new _ _ _) (hsp.keep ((MapKept.heap_alloc w1 _).2 g (lt_of_block hgh))) (lt_of_block hgh); have HRD := Lib.hid hrd; have HW1 := Lib.hid hw1; clear hrd hw1 ho1 hsp hgh)
    | (go_at_call 25; refine (cS.out _ _ _ HRD.out).mono ?_; rintro e2 w2 ⟨rfl, ho2, nn2, hr2⟩; have HO2 := Lib.hid ho2; have HR2 := Lib.hid hr2; clear ho2 hr2 cS)
    | fail)
  obtain ⟨sv, et, hb2, hs2, hD2, _⟩ := id HR2.out
  obtain ⟨A2, c2, rfl, _⟩ := hs2.len
  have HC0 : Hid (w2.drew.cell? ⟨w1.heap.size, 0, none⟩ = some (.slice A2 rest.length c2)) := Lib.hid (RB.cells hb2).1
  have HRDD : Hid (Rd g w1.heap.size w2.drew nn2 rest false) := Lib.hid (HR2.out.keep rfl rfl)
  have HCK : Hid (∀ w', Only (fun _ => False) w2.drew w' → w'.cell? ⟨w1.heap.size, 0, none⟩ = some (.slice A2 rest.length c2)) := Lib.hid fun w' h => (World.cell?_of_block (w := w2.drew) (h.block _ (lt_of_block hb2) id)).trans HC0.out
  clear hb2 hs2 hD2
  go_region_held3 (fun w' => w'.cell? ⟨w1.heap.size, 0, none⟩ = some (.slice A2 rest.length c2))
    (first | exact HC0.out | exact HCK.out _ HO3.out)
    (first
      | (go_at_call 24; refine (rd_ok.2 _ _ _ _ _ _ HRDD.out).mono ?_; rintro e3 w3 ⟨v3, rfl, rfl, ho3⟩; have HO3 := Lib.hid ho3; clear ho3))
  all_goals go_wp2_with fail
  all_goals refine bodyPost_ret (results_tmp2 Try.results12 _ _ _) rfl ?_
  all_goals refine ⟨rfl, ?_⟩
  all_goals
    have hO1 : Only (fun _ => False) w (w1.alloc (.cells #[.slice (some ⟨g, 0, none⟩) data.length cg, .bool false] 60)) := (atNew' HW1.out).alloc _
    have hO2 : Only (fun _ => False) w w2 := hO1.own (B := w.heap.size) (HO2.out.mono fun j _ (h : j = w1.heap.size) => (by have := HW1.out.size; omega : w.heap.size ≤ j)) (Nat.le_refl _)
    exact hO2.trans (((Only.refl _ w2).drew).trans HO3.out)

theorem TL.lower {base base' : Nat} {w : World} {v : Value} {acc : List TV} (h : TL base w v acc) (hb : base' ≤ base) : TL base' w v acc := by
  refine ⟨⟨h.1.1, ?_⟩, fun e he => (h.2 e he).lower hb⟩
  rcases h.1.2 with h | ⟨g, cap, cur, h1, h2, h3⟩
  · exact .inl h
  · exact .inr ⟨g, cap, cur, h1, by omega, h3⟩
theorem TL.keep {base : Nat} {w w' : World} {v : Value} {acc : List TV} (h : TL base w v acc) (ho : Only (fun _ => False) w w') : TL base w' v acc :=
  ⟨row_keep h.1 fun g hg => ho.block g (World.ownsRow.lt h.1 g hg).2 id, fun e he => row_keep (h.2 e he) fun g hg => ho.block g (World.ownsRow.lt (h.2 e he) g hg).2 id⟩
theorem lt_map {D lo hi : Nat} {w : World} {tv : Value} {l : List (Nat × List UInt8)} (h : LTags D w lo hi [tv] (.tags l)) : ∃ m, tv = .map m := by
  obtain ⟨l', e', h⟩ := h
  rcases h with ⟨_, e1⟩ | ⟨r, e1, _⟩
  · exact ⟨none, by simpa using e1⟩
  · exact ⟨some r, by simpa using e1⟩
set_option maxRecDepth 100000 in
set_option maxHeartbeats 1000000 in
theorem rt_impl {w : World} {v : Value} {data rest : List UInt8} {l : List (Nat × List UInt8)} (hv : Oc w w.heap.size v data) (hne : data ≠ []) (hd : RK.tags.dec data = some (.tags l, rest)) (hl : data.length ≤ 1000000)
    (hu : upTags 0 l) (hll : l.length ≤ 65536) (hvl : ∀ x ∈ l, x.2.length ≤ 65536) :
    Calls Try.prog 11 #[v] w fun e w' => ∃ (u : Value) (acc : List TV), e = .returned (.tuple #[u, .int .i64 rest.length, .bool true]) ∧ TL w.heap.size w' u acc ∧ acc.map Prod.fst = l ∧ Only (fun _ => False) w w' := by
  obtain ⟨i0, hi, hz0, hz1, hz2⟩ := info_u8
  have HV := Lib.hid hv
  obtain ⟨A, c, rfl, _⟩ := hv.sl
  have HLE : Hid (([] : List UInt8).length + data.length ≤ lim2) := Lib.hid (by unfold lim2; simp; omega)
  have HNE := Lib.hid hne
  have cS := Lib.hid (fun (D rb : Nat) (w1 : World) (h : Rd D rb w1 true data false) => (rt_calls h (by unfold lim; omega)).mono (R' := fun e w' => ∃ tv, e = .returned (.agg #[tv]) ∧ Only (· = rb) w1 w' ∧ LTags D w' w1.heap.size w'.heap.size [tv] (.tags l) ∧ ∃ nn, Rd D rb w' nn rest false) fun e w' ⟨tv, h1, _, _, h2, h3⟩ => by
    obtain ⟨h4, h5⟩ := rest_of h3 hd
    exact ⟨tv, h1, h2, h4, h5⟩)
  have HU := Lib.hid hu
  have HVL := Lib.hid hvl
  clear hv hne hd hu hvl
  go_enter Try.func11, Try.ntmps11
  go_wp2_with (first
    | (at_builtin; refine wp_app_oc rfl _ _ 23 rfl Try.underlying23 hi hz0 hz1 hz2 (base := w.heap.size) (v := .slice none 0 0) (ds := []) rfl (World.ownsRow_nil _ _ _ _) rfl HV.out (Nat.le_refl _) HLE.out ?_; intro v1 w1 ho1 hw1; obtain ⟨g, cg, cur, rfl, hgb, hgh, hsp⟩ := own_sp ho1 HNE.out; have hrd : Rd g w1.heap.size (w1.alloc (.cells #[.slice (some ⟨g, 0, none⟩) data.length cg, .bool false] 60)) true data false := Rd.go (RB_new _ _ _) (hsp.keep ((MapKept.heap_alloc w1 _).2 g (lt_of_block hgh))) (lt_of_block hgh); have HRD := Lib.hid hrd; have HW1 := Lib.hid hw1; have HG := Lib.hid hgh; clear hrd hw1 ho1 hsp hgh)
    | (go_at_call 22; refine (cS.out _ _ _ HRD.out).mono ?_; rintro e2 w2 ⟨tv, rfl, ho2, hlt2, nn2, hr2⟩; obtain ⟨m, rfl⟩ := lt_map hlt2; have HO2 := Lib.hid ho2; have HR2 := Lib.hid hr2; have HLT := Lib.hid hlt2; clear ho2 hr2 hlt2 cS)
    | fail)
  have hO1 : Only (fun _ => False) w (w1.alloc (.cells #[.slice (some ⟨g, 0, none⟩) data.length cg, .bool false] 60)) := (atNew' HW1.out).alloc _
  have hO2 : Only (fun _ => False) w w2 := hO1.own (B := w.heap.size) (HO2.out.mono fun j _ (h : j = w1.heap.size) => (by have := HW1.out.size; omega : w.heap.size ≤ j)) (Nat.le_refl _)
  have hg1 : g < w1.heap.size := lt_of_block HG.out
  have hg2 : w2.heap[g]? = some (.cells cur 5 (0, 0)) := (HO2.out.block g (by simp; omega) (by omega)).trans (heap_alloc_old3 HG.out)
  obtain ⟨W4, hW4⟩ : ∃ W4, w2.alloc (.cells #[.map m] 63) = W4 := ⟨_, rfl⟩
  have hk4 : ∀ k, k < w2.heap.size → W4.heap[k]? = w2.heap[k]? := fun k hk => by rw [← hW4]; exact (MapKept.heap_alloc w2 _).2 k hk
  have hsz4 : W4.heap.size = w2.heap.size + 1 := by rw [← hW4]; simp
  have hb4 : W4.heap[w2.heap.size]? = some (.cells #[.map m] 63 (0, 0)) := by rw [← hW4]; exact heap_alloc_new _ _
  have hO4 : Only (fun _ => False) w W4 := by rw [← hW4]; exact hO2.alloc _
  have hg4 : W4.heap[g]? = some (.cells cur 5 (0, 0)) := (hk4 g (lt_of_block hg2)).trans hg2
  have hlt4 : LTags g W4 _ w2.heap.size [.map m] (.tags l) := RK.leaf_keep (k := .tags) HLT.out (hk4 g (lt_of_block hg2)) (fun k _ h2 => hk4 k h2)
  have hR4 : Rd g w1.heap.size W4 nn2 rest false := HR2.out.keep (hk4 g (lt_of_block hg2)) (hk4 _ HR2.out.lt)
  obtain ⟨sv, et, hb2, hs2, hD2, _⟩ := id hR4
  obtain ⟨A2, c2, rfl, _⟩ := hs2.len
  have cT := Lib.hid (fun (w' : World) (ho : Only (fun _ => False) W4.drew w') => tagged_c (w := w') (RK.leaf_keep (k := .tags) hlt4 (ho.block g (lt_of_block hg4) id) (fun k _ h2 => ho.block k (by show k < W4.heap.size; omega) id)) HU.out hll HVL.out (by have := ho.size; have h3 : W4.drew.heap.size = W4.heap.size := rfl; omega) ((ho.block g (lt_of_block hg4) id).trans hg4))
  have cO := Lib.hid (fun (w' : World) (ho : Only (fun _ => False) W4.drew w') => rd_ok.2 g w1.heap.size w' nn2 rest false (hR4.keep (ho.block g (lt_of_block hg4) id) (ho.block _ hR4.lt id)))
  have HKS : Hid (∀ w', Only (fun _ => False) W4.drew w' → w'.cell? ⟨w2.heap.size, 0, none⟩ = some (.map m) ∧ w'.cell? ⟨w1.heap.size, 0, none⟩ = some (.slice A2 rest.length c2)) := Lib.hid fun w' h =>
    ⟨(World.cell?_of_block (w := W4.drew) (h.block _ (lt_of_block hb4) id)).trans (cell_of_one hb4), (World.cell?_of_block (w := W4.drew) (h.block _ (lt_of_block hb2) id)).trans (RB.cells hb2).1⟩
  have HO40 := Lib.hid hO4
  have HD := Lib.hid (Only.refl (fun _ => False) W4.drew)
  rw [hW4]
  clear hW4 hlt4 hR4 hb2 hs2 hD2 hg4 hg2 hb4 hk4 hO1 hO2 hO4
  go_region_held3 (fun w' => w'.cell? ⟨w2.heap.size, 0, none⟩ = some (.map m) ∧ w'.cell? ⟨w1.heap.size, 0, none⟩ = some (.slice A2 rest.length c2))
    (first | exact HKS.out _ HD.out | exact HKS.out _ HO3.out | exact HKS.out _ HO5.out)
    (first
      | (go_at_call 23; refine (cT.out _ HD.out).mono ?_; rintro e3 w3 ⟨u, acc, rfl, ht3, hm3, ho3⟩; have HT3 := Lib.hid ht3; have HM3 := Lib.hid hm3; have HO3 := Lib.hid ho3; clear ht3 hm3 ho3)
      | (go_at_call 24; refine (cO.out _ HO3.out).mono ?_; rintro e5 w5 ⟨v5, rfl, rfl, ho5⟩; have HO5 := Lib.hid (HO3.out.trans ho5); have HO35 := Lib.hid ho5; clear ho5))
  all_goals go_wp2_with fail
  all_goals refine bodyPost_ret (results_tmp3 Try.results11 _ _ _) rfl ?_
  all_goals exact ⟨u, acc, rfl, (HT3.out.lower (base' := w.heap.size) (HO40.out.size)).keep HO35.out, HM3.out, HO40.out.trans (((Only.refl _ W4).drew).trans HO5.out)⟩
end Go.Proofs.Ythlfepgcjomhpaa.Kf
