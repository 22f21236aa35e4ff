/- The reference: the known tags; the unknown ones above them. (Printed by spk.py.) -/
import Derived.Test.YtpefipjgcpchaaaGreatDoorRPG
namespace Go.Proofs.YtpefipjgcpchaaaGreatDoorR.Kf
set_option linter.unusedVariables false
set_option linter.unusedSimpArgs false
open Go Go.RowKit

/-- One more than all the tags of the first k fields. -/
def lstG (fs : List Fld) : Nat → Nat
  | 0 => 0
  | k + 1 => match fs[k]? with
    | some f => if 0 ≤ f.tag then max (lstG fs k) (f.tag.toNat + 1) else lstG fs k
    | none => lstG fs k
theorem lstG_step {fs : List Fld} {k : Nat} (h : k < fs.length) : lstG fs (k + 1) = if 0 ≤ fs[k].tag then max (lstG fs k) (fs[k].tag.toNat + 1) else lstG fs k := by simp only [lstG, List.getElem?_eq_getElem h]
theorem lstG_le {fs : List Fld} (htag : ∀ f ∈ fs, f.tag ≤ 1000) : ∀ k, lstG fs k ≤ 1001
  | 0 => by simp [lstG]
  | k + 1 => by
    have ih := lstG_le htag k
    simp only [lstG]
    split
    · next f hf =>
      have := htag f (List.mem_of_getElem? hf)
      split <;> omega
    · exact ih
set_option maxRecDepth 100000 in
theorem sp_knownG (w : World) (B : Nat) (fs : List Fld) (v : Value) (hB : B ≤ w.heap.size) (hFs : FldsC w B fs v) (htag : ∀ f ∈ fs, f.tag ≤ 1000) (hlen : fs.length ≤ 65536) :
    Calls Tryz.prog 34 #[v] w fun e w' => e = .returned (.int .u32 (lstG fs fs.length)) ∧ Only (fun _ => False) w w' := by
  obtain ⟨ff, hsl, _⟩ := id hFs
  obtain ⟨A, c, rfl, _⟩ := hsl.sl
  have HB := Lib.hid hB
  have HFs := Lib.hid hFs
  have HTG := Lib.hid htag
  clear hB hFs htag hsl
  go_enter Tryz.func34, Tryz.ntmps34
  go_wp2_with fail
  go_loopw [3, 5, 8] (fun u _ i wr => ∃ k : Nat, k ≤ fs.length ∧ i = .int .i64 k ∧ u = .int .u32 (lstG fs k) ∧ Only (fun _ => False) w wr) (fun _ _ i _ => fs.length - (intOf i).toNat)
  case atStart => exact ⟨0, Nat.zero_le _, rfl, rfl, Only.refl _ _⟩
  case round =>
    obtain ⟨k, hk, rfl, rfl, honly⟩ := hrel
    have hN := lstG_le HTG.out k
    have HW := Lib.hid honly
    clear honly
    by_cases hlt : k < fs.length
    · obtain ⟨b, o, AF, nF, cF, rfl, _, hbB, hf, e0, e1, e2, e3, e4, e5, e6, e7⟩ := (HFs.out.keep (HW.out.kept0 HB.out)).at_ hlt
      have htg : fs[k].tag ≤ 1000 := HTG.out _ (List.getElem_mem hlt)
      have hls := lstG_step hlt
      clear hf hbB
      generalize fs[k] = f at e0 e1 e2 e3 e4 e5 e6 e7 htg hls
      generalize f.kind = kind at e0
      generalize f.fr = fr at e1
      generalize f.to = to at e2
      generalize f.nu = nu at e3
      generalize f.tag = tag at e4 htg hls
      generalize f.df = df at e5
      generalize f.of = of at e6
      have HLS := Lib.hid hls
      clear hls
      generalize lstG fs k = N at *
      have hlt' : (k : Int) < (fs.length : Int) := by omega
      have e9 : wrap64 ((k : Int) + 1) = (k : Int) + 1 := by unfold wrap64; omega
      have O2 := HW.out.trans ((Only.refl (fun _ => False) wr).alloc (.cells #[.int .i64 kind, .int .i64 fr, .int .i64 to, .int .i64 nu, .int .i64 tag, .int .i64 df, .int .i64 of, .slice AF nF cF] 48))
      have HO2 := Lib.hid O2
      clear O2
      by_cases tt : 0 ≤ tag
      · obtain ⟨m, rfl⟩ : ∃ m : Nat, tag = m := ⟨tag.toNat, by omega⟩
        have ew : IntKind.u32.wrap (m : Int) = (m : Int) := by unfold IntKind.wrap; simp [IntKind.signed, IntKind.bits] <;> omega
        have ew2 : IntKind.u32.wrap ((m : Int) + 1) = (m : Int) + 1 := by unfold IntKind.wrap; simp [IntKind.signed, IntKind.bits] <;> omega
        go_wp2_with fail
        refine ⟨⟨k + 1, hlt, rfl, ?_, HO2.out⟩, by simp [intOf]; omega⟩
        rw [HLS.out, if_pos (Int.natCast_nonneg m), Int.toNat_natCast]
        congr 1
        split <;> omega
      · go_wp2_with fail
        go_roundw
        case rel => exact ⟨k + 1, hlt, rfl, by rw [HLS.out, if_neg tt], HO2.out⟩
        case measure => exact msrI fs.length k _ _ hlt rfl rfl
    · have hk2 : k = fs.length := by omega
      subst hk2
      have hlt' : ¬ ((fs.length : Int) < (fs.length : Int)) := by omega
      go_wp2_with fail
      go_ret
      exact ⟨rfl, HW.out⟩

/-- The unknown tags so far. -/
def UnRG (L : Nat) (w : World) (B : Nat) (u : List (Nat × List UInt8)) (j : Nat) (v : Value) (wr : World) : Prop :=
  ∃ acc : List TV, acc.map Prod.fst = (u.take j).foldl (fun out x => if x.1 < L then out else insU x out) [] ∧ (∀ e ∈ acc, Oc wr B e.2 e.1.2 ∧ e.1.1 < 4294967296) ∧ acc.length ≤ j ∧ Only (fun _ => False) w wr ∧
    wr.ownsRow w.heap.size 59 2 v acc.length (cells2 (acc.map cellE))
/-- The unknown tags, in a row of the call's own. -/
def UnQ (w : World) (lo B : Nat) (us : List (Nat × List UInt8)) (v : Value) : Prop :=
  ∃ acc : List TV, acc.map Prod.fst = us ∧ (∀ e ∈ acc, Oc w B e.2 e.1.2 ∧ e.1.1 < 4294967296) ∧ w.ownsRow lo 59 2 v acc.length (cells2 (acc.map cellE))
theorem UnRG.done {w wr : World} {L B j : Nat} {u : List (Nat × List UInt8)} {v : Value} (h : UnRG L w B u j v wr) (hj : min u.length most = j) : UnQ wr w.heap.size B (unkS L u) v ∧ Only (fun _ => False) w wr := by
  subst hj
  obtain ⟨acc, h1, h2, _, h3, h4⟩ := h
  refine ⟨⟨acc, ?_, h2, h4⟩, h3⟩
  rw [h1]
  unfold unkS
  by_cases hm : u.length ≤ most
  · rw [Nat.min_eq_left hm, List.take_of_length_le (Nat.le_refl _), List.take_of_length_le hm]
  · rw [Nat.min_eq_right (by omega)]
theorem UnQ.form {w : World} {lo B : Nat} {us : List (Nat × List UInt8)} {v : Value} (h : UnQ w lo B us v) : ∃ A c, v = .slice A us.length c := by
  obtain ⟨acc, h1, _, h3⟩ := h
  have hl : acc.length = us.length := by rw [← h1, List.length_map]
  rw [← hl]
  rcases h3.2 with ⟨rfl, h0⟩ | ⟨g, cap, cur, rfl, _⟩
  · exact ⟨none, 0, by rw [h0]⟩
  · exact ⟨_, cap, rfl⟩
theorem UnQ.at_ {w : World} {lo B : Nat} {us : List (Nat × List UInt8)} {A : Option Addr} {n c k : Nat} (h : UnQ w lo B us (.slice A n c)) (hk : k < us.length) :
    ∃ b A1 n1 c1, A = some ⟨b, 0, none⟩ ∧ lo ≤ b ∧ b < w.heap.size ∧ us[k].1 < 4294967296 ∧ Oc w B (.slice A1 n1 c1) us[k].2 ∧ w.cell? ⟨b, k * 2, none⟩ = some (.int .u32 us[k].1) ∧ w.cell? ⟨b, k * 2 + 1, none⟩ = some (.slice A1 n1 c1) := by
  obtain ⟨acc, rfl, h2, h3⟩ := h
  have hk' : k < acc.length := by simpa using hk
  have hlt := World.ownsRow.lt h3
  obtain ⟨A', c', e', hA⟩ := owns_slice h3
  injection e' with e1 e2 e3
  obtain ⟨g, hg⟩ := hA (by omega)
  subst e1
  subst hg
  subst e2
  have hj2 : k * 2 < acc.length * 2 := by omega
  have hj3 : k * 2 + 1 < acc.length * 2 := by omega
  have hh := hlt g rfl
  have hm := h2 _ (List.getElem_mem hk')
  obtain ⟨A1, c1, h5, _⟩ := hm.1.sl
  refine ⟨g, A1, _, c1, rfl, hh.1, hh.2, by simpa using hm.2, by rw [List.getElem_map, ← h5]; exact hm.1, ?_, ?_⟩
  · rw [World.ownsRow.cellAt h3 _ hj2, cells2_fst (acc.map cellE) k (by simpa using hk')]; simp [cellE]
  · rw [World.ownsRow.cellAt h3 _ hj3, cells2_snd (acc.map cellE) k (by simpa using hk')]; simp [cellE, h5]
theorem UnQ.keep {w w' : World} {lo B : Nat} {us : List (Nat × List UInt8)} {v : Value} (h : UnQ w lo B us v) (hB : Kept B w w') (hR : ∀ j, lo ≤ j → j < w.heap.size → w'.heap[j]? = w.heap[j]?) : UnQ w' lo B us v := by
  obtain ⟨acc, h1, h2, h3⟩ := h
  have hlt := World.ownsRow.lt h3
  refine ⟨acc, h1, fun e he => ⟨(h2 e he).1.keep hB, (h2 e he).2⟩, h3.1, ?_⟩
  rcases h3.2 with h | ⟨g, cap, cur, rfl, hg, hh, r⟩
  · exact .inl h
  · exact .inr ⟨g, cap, cur, rfl, hg, (hR g (hlt g rfl).1 (hlt g rfl).2).trans hh, r⟩
theorem unR_stepG {w wr w6 : World} {L B j i g c4 n bx : Nat} {u : List (Nat × List UInt8)} {x1 x2 xv : Value} {t : Nat × List UInt8} {acc : List TV} (hB : B ≤ w.heap.size) (hac : acc.map Prod.fst = (u.take j).foldl (fun out x => if x.1 < L then out else insU x out) []) (hoc : ∀ e ∈ acc, Oc wr B e.2 e.1.2 ∧ e.1.1 < 4294967296) (hal : acc.length ≤ j) (ho : Only (fun _ => False) w wr)
    (hst : (u.take (j + 1)).foldl (fun out x => if x.1 < L then out else insU x out) [] = insU t ((u.take j).foldl (fun out x => if x.1 < L then out else insU x out) [])) (hx : Oc wr B xv t.2) (hk : t.1 < 4294967296) (hn : acc.length = n) (hi : i ≤ n)
    (hlow : ∀ j (h : j < acc.length), j < i → acc[j].1.1 < t.1) (hstop : ∀ h : i < acc.length, ¬ acc[i].1.1 < t.1) (hneq : ∀ h : i < acc.length, ¬ acc[i].1.1 = t.1)
    (hI : InsS w bx g c4 n x1 x2 ((acc.map cellE).take i ++ (.int .u32 t.1, xv) :: (acc.map cellE).drop i) w6) : UnRG L w B u (j + 1) (.slice (some ⟨g, 0, none⟩) (n + 1) c4) w6 := by
  obtain ⟨h1, h2, h3, h4, h5⟩ := hI
  have he : insT (t, xv) acc = acc.take i ++ (t, xv) :: acc.drop i := by
    rw [insT_at (t, xv) acc i (by omega) hlow hstop, if_neg (by rintro ⟨h, h'⟩; exact hneq h h')]
  have hl : (insT (t, xv) acc).length = n + 1 := by rw [he]; simp; omega
  refine ⟨insT (t, xv) acc, by rw [insT_fst, hac, hst], fun e hm => ?_, by omega, h1, ?_⟩
  · have hk2 : Kept B wr w6 := Kept.via (ho.kept0 hB) (h1.kept0 hB)
    rcases insT_mem _ _ e hm with rfl | hm
    · exact ⟨hx.keep hk2, hk⟩
    · exact ⟨(hoc e hm).1.keep hk2, (hoc e hm).2⟩
  · rw [hl, he]
    have : (acc.take i ++ (t, xv) :: acc.drop i).map cellE = (acc.map cellE).take i ++ (.int .u32 t.1, xv) :: (acc.map cellE).drop i := by
      simp [List.map_take, List.map_drop, cellE]
    rw [this]; exact h3
theorem unR_sameG {w wr w6 : World} {L B j i n : Nat} {u : List (Nat × List UInt8)} {v xv : Value} {t : Nat × List UInt8} {acc : List TV} (hac : acc.map Prod.fst = (u.take j).foldl (fun out x => if x.1 < L then out else insU x out) []) (hoc : ∀ e ∈ acc, Oc wr B e.2 e.1.2 ∧ e.1.1 < 4294967296) (hal : acc.length ≤ j) (ho : Only (fun _ => False) w wr) (hB : B ≤ w.heap.size)
    (hst : (u.take (j + 1)).foldl (fun out x => if x.1 < L then out else insU x out) [] = insU t ((u.take j).foldl (fun out x => if x.1 < L then out else insU x out) [])) (hn : acc.length = n) (hi : i ≤ n)
    (hlow : ∀ j (h : j < acc.length), j < i → acc[j].1.1 < t.1) (hi2 : i < acc.length) (heq : acc[i].1.1 = t.1) (hrow : wr.ownsRow w.heap.size 59 2 v n (cells2 (acc.map cellE))) (h6 : Only (fun _ => False) wr w6) : UnRG L w B u (j + 1) v w6 := by
  have he : insT (t, xv) acc = acc := by
    rw [insT_at (t, xv) acc i (by omega) hlow (fun h => by rw [heq]; exact Nat.lt_irrefl _), if_pos ⟨hi2, heq⟩]
  refine ⟨acc, by rw [hst, ← hac, ← insT_fst (t, xv), he], fun e hm => ?_, by omega, ho.trans h6, ?_⟩
  · exact ⟨(hoc e hm).1.keep (h6.kept0 (Nat.le_trans hB ho.size)), (hoc e hm).2⟩
  · rw [hn]
    exact row_keep0 hrow h6

theorem unR_lowG {w wr w6 : World} {L B j : Nat} {u : List (Nat × List UInt8)} {v : Value} {n : Nat} {acc : List TV} (hac : acc.map Prod.fst = (u.take j).foldl (fun out x => if x.1 < L then out else insU x out) []) (hoc : ∀ e ∈ acc, Oc wr B e.2 e.1.2 ∧ e.1.1 < 4294967296) (hal : acc.length ≤ j) (ho : Only (fun _ => False) w wr) (hB : B ≤ w.heap.size)
    (hst : (u.take (j + 1)).foldl (fun out x => if x.1 < L then out else insU x out) [] = (u.take j).foldl (fun out x => if x.1 < L then out else insU x out) []) (hn : acc.length = n)
    (hrow : wr.ownsRow w.heap.size 59 2 v n (cells2 (acc.map cellE))) (h6 : Only (fun _ => False) wr w6) : UnRG L w B u (j + 1) v w6 := by
  refine ⟨acc, by rw [hst, hac], fun e hm => ?_, by omega, ho.trans h6, ?_⟩
  · exact ⟨(hoc e hm).1.keep (h6.kept0 (Nat.le_trans hB ho.size)), (hoc e hm).2⟩
  · rw [hn]
    exact row_keep0 hrow h6
theorem unkS_stepG {L j : Nat} {u : List (Nat × List UInt8)} (h : j < u.length) : (u.take (j + 1)).foldl (fun out x => if x.1 < L then out else insU x out) [] = (if u[j].1 < L then (u.take j).foldl (fun out x => if x.1 < L then out else insU x out) [] else insU u[j] ((u.take j).foldl (fun out x => if x.1 < L then out else insU x out) [])) := by
  rw [List.take_succ_eq_append_getElem h, List.foldl_append]
  rfl

set_option maxHeartbeats 4000000 in
set_option maxRecDepth 100000 in
theorem sp_unknownG (w : World) (B : Nat) (fs : List Fld) (v uv : Value) (u : List (Nat × List UInt8)) (hB : B ≤ w.heap.size) (hFs : FldsC w B fs v) (htag : ∀ f ∈ fs, f.tag ≤ 1000) (hlen : fs.length ≤ 65536) (hU : TgsC w B u uv) :
    Calls Tryz.prog 37 #[v, uv] w fun e w' => ∃ vv, e = .returned vv ∧ UnQ w' w.heap.size B (unkS (lstG fs fs.length) u) vv ∧ Only (fun _ => False) w w' := by
  obtain ⟨i0, hi, hz0, hz1, hz2⟩ := info_parts info_tagm
  have cK := Lib.hid (sp_knownG w B fs v hB hFs htag hlen)
  obtain ⟨L, hL⟩ : ∃ L, lstG fs fs.length = L := ⟨_, rfl⟩
  have hLb : L ≤ 1001 := by rw [← hL]; exact lstG_le htag _
  rw [hL] at cK ⊢
  clear hL
  have HB := Lib.hid hB
  obtain ⟨fu, hsu, _⟩ := id hU
  obtain ⟨AU, cU, rfl, hcU⟩ := hsu.sl
  have HU := Lib.hid hU
  clear hFs htag hB hU hsu
  obtain ⟨M, hM⟩ : ∃ M, min u.length most = M := ⟨_, rfl⟩
  have hM1 : M ≤ u.length := by omega
  have hM2 : M ≤ 32767 := by unfold most at hM; omega
  have hsl : (if ((u.length : Nat) : Int) ≤ 32767 then ((u.length : Nat) : Int) else 32767) = (M : Int) := by rw [min_most, hM]
  have HMM := Lib.hid hM
  clear hM
  generalize hul : u.length = ul at *
  have hMin : ∀ w', (Builtin.min_ #[3, 3] 3 #[.int .i64 (ul : Nat), .int .i64 32767]).run Tryz.prog w' = .ok (.int .i64 (M : Nat)) w' := by
    intro w'
    rw [← hsl]
    by_cases h : ((ul : Nat) : Int) ≤ 32767
    · simp [Builtin.min_, Builtin.min2, h]; try (intros; omega)
    · simp [Builtin.min_, Builtin.min2, h]; try (intros; omega)
  clear hsl
  go_enter Tryz.func37, Tryz.ntmps37
  go_wp2_with (go_at_call 34; refine cK.out.mono ?_; rintro e1 w1 ⟨rfl, hw1⟩; have HW1 := Lib.hid hw1; clear hw1 cK)
  go_loopw [6, 19] (fun v i wr => ∃ j : Nat, j ≤ M ∧ i = .int .i64 j ∧ UnRG L w B u j v wr) (fun _ i _ => M - (intOf i).toNat)
  case atStart => exact ⟨0, Nat.zero_le _, rfl, [], by simp, by simp, Nat.le_refl _, HW1.out, World.ownsRow_nil _ _ _ _⟩
  case round =>
    obtain ⟨j, hj, rfl, acc, hac, hoc, hal, honly, hrow⟩ := hrel
    have HAC := Lib.hid hac
    have HOC := Lib.hid hoc
    have HO := Lib.hid honly
    have HROW := Lib.hid hrow
    have HAL := Lib.hid hal
    clear hac hoc hal
    by_cases hlt : j < M
    · have hju : j < u.length := by omega
      obtain ⟨b, o, A1, n1, c1, rfl, _, hbB, hk32, hocx, ck, cx⟩ := (TgsC.keepU HU.out (honly.kept0 HB.out)).at_ hju
      have HXO := Lib.hid hocx
      have HK32 := Lib.hid hk32
      have hstep := unkS_stepG (L := L) hju
      have HST := Lib.hid hstep
      clear hocx hk32 hstep honly
      generalize u[j] = uj at *
      obtain ⟨key, val⟩ := uj
      simp only at ck cx HK32 HXO HST
      obtain ⟨Av, cv, rfl, hAv⟩ := owns_slice hrow
      generalize hn : acc.length = n at *
      have hlt' : ((j : Int) < (M : Int)) := by omega
      have hi0 := hi
      clear hi
      have hnj : n ≤ 32767 := by have := HAL.out; omega
      have HRA : Hid (∀ Q, (((wr.alloc (.cells #[.int .u32 key, .slice A1 n1 c1] 59)).drewN Q).alloc (.cells #[.int .u32 0, .slice none 0 0] 59)).ownsRow w.heap.size 59 2 (.slice Av n cv) n (cells2 (acc.map cellE))) :=
        Lib.hid fun Q => World.ownsRow.alloc (w := (wr.alloc (.cells #[.int .u32 key, .slice A1 n1 c1] 59)).drewN Q) (World.ownsRow.alloc HROW.out (.cells #[.int .u32 key, .slice A1 n1 c1] 59)) _
      have HCT : Hid (∀ Q, ∀ jj uu, [Value.int .u32 0, .slice none 0 0][jj]? = some uu → (((wr.alloc (.cells #[.int .u32 key, .slice A1 n1 c1] 59)).drewN Q).alloc (.cells #[.int .u32 0, .slice none 0 0] 59)).cell? ((⟨wr.heap.size + 1, 0, none⟩ : Addr).add jj) = some uu) :=
        Lib.hid fun Q jj uu h => by
          have h2 := cell_two_new ((wr.alloc (.cells #[.int .u32 key, .slice A1 n1 c1] 59)).drewN Q) (.int .u32 0) (.slice none 0 0) 59 jj uu h
          have e1 : ((wr.alloc (.cells #[.int .u32 key, .slice A1 n1 c1] 59)).drewN Q).heap.size = wr.heap.size + 1 := by
            have : ((wr.alloc (.cells #[.int .u32 key, .slice A1 n1 c1] 59)).drewN Q).heap = (wr.alloc (.cells #[.int .u32 key, .slice A1 n1 c1] 59)).heap := rfl
            rw [this]; simp
          rw [e1] at h2
          exact h2
      have HSZ : Hid (∀ Q, w.heap.size ≤ (((wr.alloc (.cells #[.int .u32 key, .slice A1 n1 c1] 59)).drewN Q).alloc (.cells #[.int .u32 0, .slice none 0 0] 59)).heap.size) :=
        Lib.hid fun Q => by have := HO.out.size; have e1 : ((wr.alloc (.cells #[.int .u32 key, .slice A1 n1 c1] 59)).drewN Q).heap = (wr.alloc (.cells #[.int .u32 key, .slice A1 n1 c1] 59)).heap := rfl; simp [e1]; omega
      by_cases hkL : key < L
      · rw [if_pos hkL] at HST
        go_wp2_with fail
        go_loopw [9] (fun iv w2 => ∃ i : Nat, i ≤ n ∧ iv = .int .i64 i ∧ ∃ q, w2 = (wr.alloc (.cells #[.int .u32 key, .slice A1 n1 c1] 59)).drewN q) (fun iv _ => n - (intOf iv).toNat)
        case atStart => exact ⟨0, Nat.zero_le _, rfl, 0, rfl⟩
        case round =>
          obtain ⟨i, hi, rfl, q, rfl⟩ := hrel
          have hk0 : decide ((key : Int) < (L : Int)) = true := by simp; omega
          by_cases hin : i < n
          · have hii : decide ((i : Int) < (n : Int)) = true := by simp; omega
            obtain ⟨gA, rfl⟩ := hAv (by omega)
            have hia : i < acc.length := by omega
            have hr2 : (wr.alloc (.cells #[.int .u32 key, .slice A1 n1 c1] 59)).ownsRow w.heap.size 59 2 (.slice (some ⟨gA, 0, none⟩) n cv) n (cells2 (acc.map cellE)) := World.ownsRow.alloc HROW.out (.cells #[.int .u32 key, .slice A1 n1 c1] 59)
            have ce : (wr.alloc (.cells #[.int .u32 key, .slice A1 n1 c1] 59)).cell? ⟨gA, i * 2, none⟩ = some (.int .u32 acc[i].1.1) := by
              rw [World.ownsRow.cellAt hr2 _ (by omega), cells2_fst (acc.map cellE) i (by simpa using hia)]; simp [cellE]
            obtain ⟨kk, hkk⟩ : ∃ kk, acc[i].1.1 = kk := ⟨_, rfl⟩
            rw [hkk] at ce
            clear hr2
            by_cases hc1 : kk < key
            · have hc1' : decide ((kk : Int) < (key : Int)) = true := by simp; omega
              go_wp2_with fail
              go_quiet (fail)
              go_wp2_with fail
              go_roundw
              case rel => exact ⟨i + 1, by omega, rfl, _, rfl⟩
              case measure => exact msrI n i _ _ hin rfl rfl
            · have hc1' : decide ((kk : Int) < (key : Int)) = false := by simp; omega
              go_wp2_with fail
              go_quiet (fail)
              go_wp2_with fail
              go_quiet (fail)
              go_wp2_with fail
              go_roundw
              case rel => exact ⟨j + 1, hlt, rfl, unR_lowG HAC.out HOC.out (by rw [hn]; exact HAL.out) HO.out HB.out HST.out hn HROW.out (only_drew ((Only.refl _ _).alloc _) _)⟩
              case measure => exact msrI M j _ _ hlt rfl rfl
          · have hii : decide ((i : Int) < (n : Int)) = false := by simp; omega
            go_wp2_with fail
            go_quiet (fail)
            go_wp2_with fail
            go_quiet (fail)
            go_wp2_with fail
            go_roundw
            case rel => exact ⟨j + 1, hlt, rfl, unR_lowG HAC.out HOC.out (by rw [hn]; exact HAL.out) HO.out HB.out HST.out hn HROW.out (only_drew ((Only.refl _ _).alloc _) _)⟩
            case measure => exact msrI M j _ _ hlt rfl rfl
      · rw [if_neg hkL] at HST
        go_wp2_with fail
        go_loopw [9] (fun iv w2 => ∃ i : Nat, i ≤ n ∧ iv = .int .i64 i ∧ (∀ i' (h : i' < acc.length), i' < i → acc[i'].1.1 < key) ∧ ∃ q, w2 = (wr.alloc (.cells #[.int .u32 key, .slice A1 n1 c1] 59)).drewN q) (fun iv _ => n - (intOf iv).toNat)
        case atStart => exact ⟨0, Nat.zero_le _, rfl, fun _ _ h => by omega, 0, rfl⟩
        case round =>
          obtain ⟨i, hi, rfl, hlow, q, rfl⟩ := hrel
          have hk0 : decide ((key : Int) < (L : Int)) = false := by simp; omega
          by_cases hin : i < n
          · have hii : decide ((i : Int) < (n : Int)) = true := by simp; omega
            obtain ⟨gA, rfl⟩ := hAv (by omega)
            have hia : i < acc.length := by omega
            have hr2 : (wr.alloc (.cells #[.int .u32 key, .slice A1 n1 c1] 59)).ownsRow w.heap.size 59 2 (.slice (some ⟨gA, 0, none⟩) n cv) n (cells2 (acc.map cellE)) := World.ownsRow.alloc HROW.out (.cells #[.int .u32 key, .slice A1 n1 c1] 59)
            have ce : (wr.alloc (.cells #[.int .u32 key, .slice A1 n1 c1] 59)).cell? ⟨gA, i * 2, none⟩ = some (.int .u32 acc[i].1.1) := by
              rw [World.ownsRow.cellAt hr2 _ (by omega), cells2_fst (acc.map cellE) i (by simpa using hia)]; simp [cellE]
            have hlow2 : acc[i].1.1 < key → ∀ i' (h : i' < acc.length), i' < i + 1 → acc[i'].1.1 < key := fun h i' h2 h3 => by
              by_cases e : i' = i
              · subst e; exact h
              · exact hlow i' h2 (by omega)
            have HL2 := Lib.hid hlow2
            have hgi : ∀ h : i < acc.length, acc[i].1.1 = acc[i].1.1 := fun _ => rfl
            obtain ⟨kk, hkk⟩ : ∃ kk, acc[i].1.1 = kk := ⟨_, rfl⟩
            rw [hkk] at ce
            have HKK := Lib.hid hkk
            clear hlow2 hgi hr2
            by_cases hc1 : kk < key
            · have hc1' : decide ((kk : Int) < (key : Int)) = true := by simp; omega
              go_wp2_with fail
              go_quiet (fail)
              go_wp2_with fail
              go_roundw
              case rel => exact ⟨i + 1, by omega, rfl, HL2.out (by rw [HKK.out]; exact hc1), _, rfl⟩
              case measure => exact msrI n i _ _ hin rfl rfl
            · have hc1' : decide ((kk : Int) < (key : Int)) = false := by simp; omega
              by_cases hc2 : kk = key
              · have hc2' : decide ((kk : Int) = (key : Int)) = true := by simp; omega
                have HU6 := Lib.hid (fun w6 (h : Only (fun _ => False) wr w6) => unR_sameG (B := B) (u := u) (xv := Value.slice A1 n1 c1) (t := (key, val)) HAC.out HOC.out (by rw [hn]; exact HAL.out) HO.out HB.out HST.out hn hi hlow hia (by rw [HKK.out]; exact hc2) HROW.out h)
                go_wp2_with fail
                go_quiet (fail)
                go_wp2_with fail
                go_quiet (fail)
                go_wp2_with fail
                go_roundw
                case rel => exact ⟨j + 1, hlt, rfl, HU6.out _ (only_drew ((Only.refl _ _).alloc _) _)⟩
                case measure => exact msrI M j _ _ hlt rfl rfl
              · have hc2' : decide ((kk : Int) = (key : Int)) = false := by simp; omega
                have HSTOP : Hid (∀ h : i < acc.length, ¬ acc[i].1.1 < key) := Lib.hid fun h => by rw [HKK.out]; omega
                have HNEQ : Hid (∀ h : i < acc.length, ¬ acc[i].1.1 = key) := Lib.hid fun h => by rw [HKK.out]; omega
                go_wp2_with fail
                go_quiet (fail)
                go_wp2_with fail
                go_quiet (fail)
                go_wp2_with (first
                  | (at_builtin; refine wpList_append_own_at _ rfl _ _ 24 rfl w.heap.size 59 i0 (.agg #[.int .u32 0, .slice none 0 0]) 2 32 Tryz.underlying24 hi0 hz0 hz1 hz2 rfl (by decide) _ n _ rfl (HRA.out _) ⟨_, 0, none⟩ 1 1 [.int .u32 0, .slice none 0 0] rfl rfl (HCT.out _) (by simp [Value.oneCell']) (by unfold maxLen; omega) (by omega) (HSZ.out _) ?_
                     intro v4 w4 ho4 hg4 hnil4 hbk4
                     obtain ⟨g, c4, e4⟩ := own_form4 ho4 (fun e => by have := (hnil4.1 e).2; omega)
                     subst e4
                     have HI := Lib.hid (insS_start HO.out HROW.out hn ho4 hg4 hbk4)
                     clear ho4 hg4 hnil4 hbk4
                     go_frame)
                  | fail)
                go_loopw [10] (fun kv w5 => ∃ (p : Nat) (x : Value × Value), i ≤ p ∧ p ≤ n ∧ kv = .int .i64 p ∧ InsS w wr.heap.size g c4 n (.int .u32 key) (.slice A1 n1 c1) ((acc.map cellE).take p ++ x :: (acc.map cellE).drop p) w5) (fun kv _ => (intOf kv).toNat - i)
                case atStart => exact ⟨n, _, hi, Nat.le_refl _, by simp, HI.out⟩
                case round =>
                  obtain ⟨p, x, hip, hpn, hkv, hI⟩ := hrel
                  have HI2 := Lib.hid hI
                  by_cases hlp : i < p
                  · obtain ⟨p', rfl⟩ : ∃ p', p = p' + 1 := ⟨p - 1, by omega⟩
                    rw [show (((p' + 1 : Nat) : Int)) = (p' : Int) + 1 from rfl] at hkv
                    subst hkv
                    have hlE : ((acc.map cellE).take (p' + 1) ++ x :: (acc.map cellE).drop (p' + 1)).length = n + 1 := hI.2.2.2.2
                    have hpa : p' < (acc.map cellE).length := by simp [hn]; omega
                    obtain ⟨d1, d2, d3, d4⟩ := hI.cells (p' + 1) (by omega)
                    obtain ⟨k1, k2, _, _⟩ := hI.cells p' (by omega)
                    have hget := shift_get (acc.map cellE) p' x (by omega) (by omega)
                    rw [hget] at k1 k2
                    have hset := hI.set (p' + 1) (by omega) (acc.map cellE)[p'].1 (acc.map cellE)[p'].2
                    rw [show ((acc.map cellE)[p'].1, (acc.map cellE)[p'].2) = (acc.map cellE)[p'] from rfl, shift_set _ p' x (by omega), shift_view _ p' (by omega)] at hset
                    have HSET := Lib.hid hset
                    have hmem : acc[p']'(by simpa using hpa) ∈ acc := List.getElem_mem _
                    obtain ⟨A5, c5, h5, _⟩ := (HOC.out _ hmem).1.sl
                    have e5 : (acc.map cellE)[p'] = (.int .u32 (acc[p']'(by simpa using hpa)).1.1, .slice A5 (acc[p']'(by simpa using hpa)).1.2.length c5) := by simp [cellE, h5]
                    rw [e5] at k1 k2 HSET
                    simp only at k1 k2 HSET
                    have hx1 := hI.cells (p' + 1) (by omega)
                    generalize (((acc.map cellE).take (p' + 1) ++ x :: (acc.map cellE).drop (p' + 1))[p' + 1]'(by omega)).1 = o1 at d1
                    generalize (((acc.map cellE).take (p' + 1) ++ x :: (acc.map cellE).drop (p' + 1))[p' + 1]'(by omega)).2 = o2 at d2
                    generalize (acc[p']'(by simpa using hpa)).1.1 = kk at *
                    generalize (acc[p']'(by simpa using hpa)).1.2.length = ll at *
                    have g1 : ((p' : Int) + 1 > (i : Int)) := by omega
                    have g2 : ((p' : Int) < (n : Int) + 1) := by omega
                    have g3 : ((p' : Int) + 1 < (n : Int) + 1) := by omega
                    have HTH := Lib.hid (hI.there (p' + 1) (by omega))
                    clear hI hget hset hmem e5 hx1 h5
                    obtain ⟨w5, hw5⟩ : ∃ w5, w5 = wr.setCells g ((p' + 1) * 2) (#[.int .u32 kk, .slice A5 ll c5] : Array Value).toList := ⟨_, rfl⟩
                    have HSET2 : Hid (InsS w _ g c4 n _ _ _ w5) := Lib.hid (by rw [hw5]; exact HSET.out)
                    have HW5 := Lib.hid hw5
                    have H1C : Hid ((#[.int .u32 kk, .slice A5 ll c5] : Array Value).all (·.oneCell') = true) := Lib.hid (all_oneCell_toArray (cs := [.int .u32 kk, .slice A5 ll c5]) (by intro v hv; simp at hv; rcases hv with rfl | rfl <;> rfl))
                    clear hw5 HSET HI2
                    go_wp2_with (first | (refine wpList_store_mid rfl 59 (.tmp 78) (.tmp 77) rfl g ((p' + 1) * 2) #[.int .u32 kk, .slice A5 ll c5] rfl rfl HTH.out info_tag2 H1C.out ?_; rw [← HW5.out]; clear HW5 HTH; go_frame) | fail)
                    go_roundw
                    case rel => exact ⟨p', _, by omega, by omega, rfl, HSET2.out⟩
                    case measure => exact msrD i p' _ _ (by omega) rfl rfl
                  · obtain rfl : i = p := by omega
                    subst hkv
                    obtain ⟨b1, b2⟩ := hI.box
                    have hset := hI.set i (by rw [hI.2.2.2.2]; omega) (.int .u32 key) (.slice A1 n1 c1)
                    rw [shift_end _ i _ _ (by simp [hn]; omega)] at hset
                    have HTH := Lib.hid (hI.there i (by rw [hI.2.2.2.2]; omega))
                    obtain ⟨w5, hw5⟩ : ∃ w5, w5 = wr.setCells g (i * 2) (#[.int .u32 key, .slice A1 n1 c1] : Array Value).toList := ⟨_, rfl⟩
                    have HSET2 : Hid (InsS w _ g c4 n _ _ _ w5) := Lib.hid (by rw [hw5]; exact hset)
                    have HW5 := Lib.hid hw5
                    have H1C : Hid ((#[.int .u32 key, .slice A1 n1 c1] : Array Value).all (·.oneCell') = true) := Lib.hid (all_oneCell_toArray (cs := [.int .u32 key, .slice A1 n1 c1]) (by intro v hv; simp at hv; rcases hv with rfl | rfl <;> rfl))
                    have g2 : ((i : Int) < (n : Int) + 1) := by omega
                    clear hw5 hset hI HI2
                    go_wp2_with (first | (refine wpList_store_mid rfl 59 (.tmp 82) (.tmp 81) rfl g (i * 2) #[.int .u32 key, .slice A1 n1 c1] rfl rfl HTH.out info_tag2 H1C.out ?_; rw [← HW5.out]; clear HW5 HTH; go_frame) | fail)
                    go_roundw
                    case rel => exact ⟨j + 1, hlt, rfl, unR_stepG (t := (key, val)) HB.out HAC.out HOC.out (by rw [hn]; exact HAL.out) HO.out HST.out HXO.out HK32.out hn hi hlow HSTOP.out HNEQ.out HSET2.out⟩
                    case measure => exact msrI M j _ _ hlt rfl rfl
          · have hii : decide ((i : Int) < (n : Int)) = false := by simp; omega
            have HSTOP : Hid (∀ h : i < acc.length, ¬ acc[i].1.1 < key) := Lib.hid fun h => by omega
            have HNEQ : Hid (∀ h : i < acc.length, ¬ acc[i].1.1 = key) := Lib.hid fun h => by omega
            go_wp2_with fail
            go_quiet (fail)
            go_wp2_with fail
            go_quiet (fail)
            go_wp2_with (first
              | (at_builtin; refine wpList_append_own_at _ rfl _ _ 24 rfl w.heap.size 59 i0 (.agg #[.int .u32 0, .slice none 0 0]) 2 32 Tryz.underlying24 hi0 hz0 hz1 hz2 rfl (by decide) _ n _ rfl (HRA.out _) ⟨_, 0, none⟩ 1 1 [.int .u32 0, .slice none 0 0] rfl rfl (HCT.out _) (by simp [Value.oneCell']) (by unfold maxLen; omega) (by omega) (HSZ.out _) ?_
                 intro v4 w4 ho4 hg4 hnil4 hbk4
                 obtain ⟨g, c4, e4⟩ := own_form4 ho4 (fun e => by have := (hnil4.1 e).2; omega)
                 subst e4
                 have HI := Lib.hid (insS_start HO.out HROW.out hn ho4 hg4 hbk4)
                 clear ho4 hg4 hnil4 hbk4
                 go_frame)
              | fail)
            go_loopw [10] (fun kv w5 => ∃ (p : Nat) (x : Value × Value), i ≤ p ∧ p ≤ n ∧ kv = .int .i64 p ∧ InsS w wr.heap.size g c4 n (.int .u32 key) (.slice A1 n1 c1) ((acc.map cellE).take p ++ x :: (acc.map cellE).drop p) w5) (fun kv _ => (intOf kv).toNat - i)
            case atStart => exact ⟨n, _, hi, Nat.le_refl _, by simp, HI.out⟩
            case round =>
              obtain ⟨p, x, hip, hpn, hkv, hI⟩ := hrel
              have HI2 := Lib.hid hI
              by_cases hlp : i < p
              · obtain ⟨p', rfl⟩ : ∃ p', p = p' + 1 := ⟨p - 1, by omega⟩
                rw [show (((p' + 1 : Nat) : Int)) = (p' : Int) + 1 from rfl] at hkv
                subst hkv
                have hlE : ((acc.map cellE).take (p' + 1) ++ x :: (acc.map cellE).drop (p' + 1)).length = n + 1 := hI.2.2.2.2
                have hpa : p' < (acc.map cellE).length := by simp [hn]; omega
                obtain ⟨d1, d2, d3, d4⟩ := hI.cells (p' + 1) (by omega)
                obtain ⟨k1, k2, _, _⟩ := hI.cells p' (by omega)
                have hget := shift_get (acc.map cellE) p' x (by omega) (by omega)
                rw [hget] at k1 k2
                have hset := hI.set (p' + 1) (by omega) (acc.map cellE)[p'].1 (acc.map cellE)[p'].2
                rw [show ((acc.map cellE)[p'].1, (acc.map cellE)[p'].2) = (acc.map cellE)[p'] from rfl, shift_set _ p' x (by omega), shift_view _ p' (by omega)] at hset
                have HSET := Lib.hid hset
                have hmem : acc[p']'(by simpa using hpa) ∈ acc := List.getElem_mem _
                obtain ⟨A5, c5, h5, _⟩ := (HOC.out _ hmem).1.sl
                have e5 : (acc.map cellE)[p'] = (.int .u32 (acc[p']'(by simpa using hpa)).1.1, .slice A5 (acc[p']'(by simpa using hpa)).1.2.length c5) := by simp [cellE, h5]
                rw [e5] at k1 k2 HSET
                simp only at k1 k2 HSET
                have hx1 := hI.cells (p' + 1) (by omega)
                generalize (((acc.map cellE).take (p' + 1) ++ x :: (acc.map cellE).drop (p' + 1))[p' + 1]'(by omega)).1 = o1 at d1
                generalize (((acc.map cellE).take (p' + 1) ++ x :: (acc.map cellE).drop (p' + 1))[p' + 1]'(by omega)).2 = o2 at d2
                generalize (acc[p']'(by simpa using hpa)).1.1 = kk at *
                generalize (acc[p']'(by simpa using hpa)).1.2.length = ll at *
                have g1 : ((p' : Int) + 1 > (i : Int)) := by omega
                have g2 : ((p' : Int) < (n : Int) + 1) := by omega
                have g3 : ((p' : Int) + 1 < (n : Int) + 1) := by omega
                have HTH := Lib.hid (hI.there (p' + 1) (by omega))
                clear hI hget hset hmem e5 hx1 h5
                obtain ⟨w5, hw5⟩ : ∃ w5, w5 = wr.setCells g ((p' + 1) * 2) (#[.int .u32 kk, .slice A5 ll c5] : Array Value).toList := ⟨_, rfl⟩
                have HSET2 : Hid (InsS w _ g c4 n _ _ _ w5) := Lib.hid (by rw [hw5]; exact HSET.out)
                have HW5 := Lib.hid hw5
                have H1C : Hid ((#[.int .u32 kk, .slice A5 ll c5] : Array Value).all (·.oneCell') = true) := Lib.hid (all_oneCell_toArray (cs := [.int .u32 kk, .slice A5 ll c5]) (by intro v hv; simp at hv; rcases hv with rfl | rfl <;> rfl))
                clear hw5 HSET HI2
                go_wp2_with (first | (refine wpList_store_mid rfl 59 (.tmp 78) (.tmp 77) rfl g ((p' + 1) * 2) #[.int .u32 kk, .slice A5 ll c5] rfl rfl HTH.out info_tag2 H1C.out ?_; rw [← HW5.out]; clear HW5 HTH; go_frame) | fail)
                go_roundw
                case rel => exact ⟨p', _, by omega, by omega, rfl, HSET2.out⟩
                case measure => exact msrD i p' _ _ (by omega) rfl rfl
              · obtain rfl : i = p := by omega
                subst hkv
                obtain ⟨b1, b2⟩ := hI.box
                have hset := hI.set i (by rw [hI.2.2.2.2]; omega) (.int .u32 key) (.slice A1 n1 c1)
                rw [shift_end _ i _ _ (by simp [hn]; omega)] at hset
                have HTH := Lib.hid (hI.there i (by rw [hI.2.2.2.2]; omega))
                obtain ⟨w5, hw5⟩ : ∃ w5, w5 = wr.setCells g (i * 2) (#[.int .u32 key, .slice A1 n1 c1] : Array Value).toList := ⟨_, rfl⟩
                have HSET2 : Hid (InsS w _ g c4 n _ _ _ w5) := Lib.hid (by rw [hw5]; exact hset)
                have HW5 := Lib.hid hw5
                have H1C : Hid ((#[.int .u32 key, .slice A1 n1 c1] : Array Value).all (·.oneCell') = true) := Lib.hid (all_oneCell_toArray (cs := [.int .u32 key, .slice A1 n1 c1]) (by intro v hv; simp at hv; rcases hv with rfl | rfl <;> rfl))
                have g2 : ((i : Int) < (n : Int) + 1) := by omega
                clear hw5 hset hI HI2
                go_wp2_with (first | (refine wpList_store_mid rfl 59 (.tmp 82) (.tmp 81) rfl g (i * 2) #[.int .u32 key, .slice A1 n1 c1] rfl rfl HTH.out info_tag2 H1C.out ?_; rw [← HW5.out]; clear HW5 HTH; go_frame) | fail)
                go_roundw
                case rel => exact ⟨j + 1, hlt, rfl, unR_stepG (t := (key, val)) HB.out HAC.out HOC.out (by rw [hn]; exact HAL.out) HO.out HST.out HXO.out HK32.out hn hi hlow HSTOP.out HNEQ.out HSET2.out⟩
                case measure => exact msrI M j _ _ hlt rfl rfl
    · obtain rfl : j = M := by omega
      have hlt' : ¬ ((j : Int) < (j : Int)) := by omega
      have hd : UnQ wr w.heap.size B (unkS L u) _ ∧ Only (fun _ => False) w wr := UnRG.done (j := j) ⟨acc, HAC.out, HOC.out, HAL.out, HO.out, HROW.out⟩ (by rw [hul]; exact HMM.out)
      have HD := Lib.hid hd
      clear hd hrow honly
      go_wp2_with fail
      go_ret
      exact ⟨_, rfl, HD.out⟩
end Go.Proofs.YtpefipjgcpchaaaGreatDoorR.Kf
