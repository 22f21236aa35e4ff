/- QuotasMatchType: a text is read as the value whose word it is. -/
import Derived.Test.YthlfepgcjomhpaaDoorNsC
namespace Go.Proofs.YthlfepgcjomhpaaDoor.Kf
set_option linter.unusedVariables false
set_option linter.unusedSimpArgs false
open Go Go.RowKit

def lowQ : Nms := [(0, [101, 120, 97, 99, 116]), (1, [100, 101, 102, 97, 117, 108, 116]), (2, [97, 110, 121])]
def namesQ : Nms := [(0, [69, 88, 65, 67, 84]), (1, [68, 69, 70, 65, 85, 76, 84]), (2, [65, 78, 89])]
theorem namesQ_low : namesQ.map (fun x => (x.1, normL x.2)) = lowQ := by decide
theorem namesQ_len : namesQ.length ≤ 65536 ∧ ∀ x ∈ namesQ, x.2.length ≤ 4294967296 := ⟨by decide, by decide⟩

set_option maxRecDepth 100000 in
theorem specQ (w : World) : Calls Tryd.prog 9 #[] w fun e w' => (∃ v, e = .returned v ∧ NmsC w' v namesQ) ∧ Only (fun _ => False) w w' := by
  go_enter Tryd.func9, Tryd.ntmps9
  go_wp2
  go_ret
  refine ⟨⟨_, rfl, w.heap.size, 3, rfl, by decide, by simp, fun j x hx => ?_⟩, (Only.refl _ _).alloc _⟩
  have hj : j < 3 := (List.getElem?_eq_some_iff.1 hx).1
  have : j = 0 ∨ j = 1 ∨ j = 2 := by omega
  rcases this with rfl | rfl | rfl <;> (cases hx; exact ⟨by rw [World.cell?_alloc_mark]; rfl, by rw [World.cell?_alloc_mark]; rfl⟩)

set_option maxRecDepth 100000 in
theorem readQ (w : World) (l : List UInt8) (hl : l.length ≤ 4294967296) (ha : Plain7 l) (ht : Asc w) :
    Calls Tryd.prog 17 #[.string ⟨l.toArray⟩] w (RdW lowQ (normL l) w) := by
  have c1 := Lib.hid (fun (w1 : World) (h : Asc w1) => strnorm_c w1 l hl ha h)
  have HT := Lib.hid ht
  clear ha ht
  generalize normL l = m at *
  go_enter Tryd.func17, Tryd.ntmps17
  go_wp2_with (first
    | (go_at_call 25; refine (c1.out _ HT.out).mono ?_; rintro e1 w1 ⟨rfl, h1⟩; have O1 := Lib.hid h1; clear h1 c1)
    | (go_at_call 26; refine (err_new _ _).mono ?_; rintro e2 w2 ⟨⟨t2, v2, rfl⟩, h2⟩; have O2 := Lib.hid (O1.out.trans h2); clear h2)
    | fail)
  · have hm : m = [101, 120, 97, 99, 116] := by simpa using (show (m == [101, 120, 97, 99, 116]) = true by assumption)
    subst hm
    refine bodyPost_ret (results_tmp2 Tryd.results17 _ _ _) rfl ?_
    exact ⟨.nilIface, rfl, fun _ => rfl, fun h => absurd h (by decide), O1.out⟩
  · have hm : m = [100, 101, 102, 97, 117, 108, 116] := by simpa using (show (m == [100, 101, 102, 97, 117, 108, 116]) = true by assumption)
    subst hm
    refine bodyPost_ret (results_tmp2 Tryd.results17 _ _ _) rfl ?_
    exact ⟨.nilIface, rfl, fun _ => rfl, fun h => absurd h (by decide), O1.out⟩
  · have hm : m = [97, 110, 121] := by simpa using (show (m == [97, 110, 121]) = true by assumption)
    subst hm
    refine bodyPost_ret (results_tmp2 Tryd.results17 _ _ _) rfl ?_
    exact ⟨.nilIface, rfl, fun _ => rfl, fun h => absurd h (by decide), O1.out⟩
  · refine bodyPost_ret (results_tmp2 Tryd.results17 _ _ _) rfl ?_
    have hm : lk lowQ m = (0, false) := by
      have h0 : ¬ [101, 120, 97, 99, 116] = m := fun h => by subst h; simp at *
      have h1 : ¬ [100, 101, 102, 97, 117, 108, 116] = m := fun h => by subst h; simp at *
      have h2 : ¬ [97, 110, 121] = m := fun h => by subst h; simp at *
      simp only [lowQ, lk, if_neg h0, if_neg h1, if_neg h2]
    refine ⟨.iface t2 v2, by rw [hm]; rfl, ?_, ?_, O2.out⟩
    · intro h; rw [hm] at h; cases h
    · exact fun _ => ⟨_, _, rfl⟩

/-- What the thin package's reading gives. -/
def RdQ (l : List UInt8) (w : World) (e : Ending) (w' : World) : Prop := e = .returned (.tuple #[.int .i64 (parsedL namesQ l).1, .bool (parsedL namesQ l).2]) ∧ Only (fun _ => False) w w'
theorem lk_rngQ (m : List UInt8) : (0 ≤ (lk lowQ m).1 ∧ (lk lowQ m).1 ≤ 127) ∧ ((lk lowQ m).2 = false → (lk lowQ m).1 = 0) := by
  simp only [lowQ, lk]
  repeat' split
  all_goals simp

set_option maxRecDepth 100000 in
theorem implQ (w : World) (l : List UInt8) (hl : l.length ≤ 4294967296) (ha : Plain7 l) (ht : Asc w) :
    Calls Tryd.prog 6 #[.string ⟨l.toArray⟩] w (RdQ l w) := by
  have c1 := Lib.hid (fun (w1 : World) (h : Asc w1) => readQ w1 l hl ha h)
  have HT := Lib.hid ht
  unfold RdQ
  rw [parsed_lk, namesQ_low]
  obtain ⟨hr, hz⟩ := lk_rngQ (normL l)
  unfold RdW at c1
  clear ha ht
  generalize lk lowQ (normL l) = p at *
  obtain ⟨n, ok⟩ := p
  simp only at *
  have hwr : IntKind.i64.wrap n = n := by unfold IntKind.wrap; simp [IntKind.signed, IntKind.bits] <;> omega
  have hw64 : wrap64 n = n := by unfold wrap64; omega
  go_enter Tryd.func6, Tryd.ntmps6
  cases ok with
  | true =>
    go_wp2_with (first
      | (go_at_call 17; refine (c1.out _ HT.out).mono ?_; rintro e1 w1 ⟨ev, rfl, he, _, h1⟩; have he := he rfl; subst he; have O1 := Lib.hid h1; clear h1 c1)
      | fail)
    refine bodyPost_ret (results_tmp2 Tryd.results6 _ _ _) rfl ?_
    exact ⟨rfl, O1.out⟩
  | false =>
    have hz := hz rfl
    subst hz
    go_wp2_with (first
      | (go_at_call 17; refine (c1.out _ HT.out).mono ?_; rintro e1 w1 ⟨ev, rfl, _, he, h1⟩; obtain ⟨t2, v2, rfl⟩ := he rfl; have O1 := Lib.hid h1; clear h1 c1)
      | fail)
    refine bodyPost_ret (results_tmp2 Tryd.results6 _ _ _) rfl ?_
    exact ⟨rfl, O1.out⟩

theorem cell0Q {w : World} {b : Nat} {c0 : Value} {e : TypeId} (h : w.heap[b]? = some (.cells #[c0] e (0, 0))) : w.cell? ⟨b, 0, none⟩ = some c0 := by simp [World.cell?, h]
theorem frz0Q {w : World} {b : Nat} {c0 : Value} {e : TypeId} (h : w.heap[b]? = some (.cells #[c0] e (0, 0))) : w.frozen? ⟨b, 0, none⟩ = false := by simp [World.frozen?, h]
set_option maxRecDepth 100000 in
theorem umQ (w : World) (b : Nat) (c0 : Value) (e0 : TypeId) (v : Value) (l : List UInt8) (hb : w.heap[b]? = some (.cells #[c0] e0 (0, 0))) (hv : Wn w v l) (hl : l.length ≤ 4294967296) (ha : Plain7 l) (ht : Asc w) :
    Calls Tryd.prog 18 #[.pointer (some ⟨b, 0, none⟩), v] w fun e w' => ∃ ev, e = .returned ev ∧ ((lk lowQ (normL l)).2 = true → ev = .nilIface) ∧ ((lk lowQ (normL l)).2 = false → ∃ t u, ev = .iface t u) ∧
      w'.cell? ⟨b, 0, none⟩ = some (.int .i8 (lk lowQ (normL l)).1) ∧ Only (· = b) w w' := by
  have c1 := Lib.hid (fun (w1 : World) (h : Asc w1) => readQ w1 l hl ha h)
  have HT := Lib.hid ht
  have HV := Lib.hid hv
  have HB := Lib.hid hb
  unfold RdW at c1
  obtain ⟨A, c, rfl, _⟩ := hv.len
  clear ha ht hv hb
  generalize lk lowQ (normL l) = p at *
  obtain ⟨n, ok⟩ := p
  simp only at *
  go_enter Tryd.func18, Tryd.ntmps18
  go_wp2_with (first
    | (rw [HV.out.conv Tryd.underlying26 Tryd.underlying5 Tryd.underlying9]; simp only [Result.andThen]; rw [Oper.upon_value])
    | (go_at_call 17; refine (c1.out _ HT.out).mono ?_; rintro e1 w1 ⟨ev, rfl, hx, hy, h1⟩; have O1 := Lib.hid h1; have HX := Lib.hid hx; have HY := Lib.hid hy; have hb1 := (h1.block b (Array.getElem?_eq_some_iff.1 HB.out).1 id).trans HB.out; have hc : w1.cell? ⟨b, 0, none⟩ = some c0 := cell0Q hb1; have hfz := frz0Q hb1; clear hb1; clear h1 hx hy c1)
    | fail)
  go_ret
  refine ⟨ev, rfl, HX.out, HY.out, ?_, ?_⟩
  · exact World.cell?_setCell_same' _ _ _ (by rw [hc]; rfl)
  · exact (O1.out.mono fun _ _ h => h.elim).setCell _ _

theorem own_nilQ (U base : Nat) (w : World) : Own U base w (.slice none 0 0) [] := World.ownsRow_nil _ _ _ _
theorem ofBoxQ {w w1 : World} {b : Nat} (h : Only (· = b) w w1) {w0 : World} (hw : Only (fun _ => False) w0 w) (hb : w0.heap.size ≤ b) : Only (fun _ => False) w0 w1 :=
  ⟨h.os.trans hw.os, h.tape.trans hw.tape, h.output.trans hw.output, Nat.le_trans hw.size h.size, fun k hk hs => (h.block k (Nat.lt_of_lt_of_le hk hw.size) (by omega)).trans (hw.block k hk hs)⟩
set_option maxRecDepth 100000 in
set_option maxHeartbeats 1000000 in
theorem textQ (w : World) (v : Value) (l : List UInt8) (hv : Oc w w.heap.size v l) (hl : l.length ≤ 65536) (ha : Plain7 l) (ht : Asc w) :
    Calls Tryd.prog 7 #[v] w (RdQ l w) := by
  obtain ⟨i0, hi, hz0, hz1, hz2⟩ := info_u8
  have HT := Lib.hid ht
  have HV := Lib.hid hv
  have HA := Lib.hid ha
  unfold RdQ
  rw [parsed_lk, namesQ_low]
  have c1 := Lib.hid (fun (w1 : World) (b : Nat) (c0 : Value) (e0 : TypeId) (u : Value) h1 h2 h3 => umQ w1 b c0 e0 u l h1 h2 (by omega) ha h3)
  obtain ⟨hr, hz⟩ := lk_rngQ (normL l)
  obtain ⟨A, c, rfl, _⟩ := hv.sl
  clear ha ht hv
  generalize lk lowQ (normL l) = p at *
  obtain ⟨n, ok⟩ := p
  simp only at *
  have hw64 : wrap64 n = n := by unfold wrap64; omega
  have hlt := Lib.hid hl
  go_enter Tryd.func7, Tryd.ntmps7
  cases ok with
  | true =>
    clear hz
    go_wp2_with (first
      | (at_builtin; refine wp_app_oc rfl _ _ 26 rfl Tryd.underlying26 hi hz0 hz1 hz2 (base := w.heap.size + 1) (B := w.heap.size) (v := .slice none 0 0) (ds := []) rfl (own_nilQ _ _ _) rfl (HV.out.keep (((Only.refl (fun _ => False) w).alloc _).kept0 (Nat.le_refl _))) ?_ ?_ ?_)
      | fail)
    · have := hlt.out; unfold lim2; first | omega | (simp; omega)
    · intro v1 w1 ho1 hw1
      have O1 : Hid (Only (fun _ => False) w w1) := Lib.hid (((Only.refl (fun _ => False) w).alloc _).own hw1 (Nat.le_succ _))
      have HBX : Hid (w1.heap[w.heap.size]? = some (.cells #[.int .i8 0] 38 (0, 0))) := Lib.hid ((hw1.block _ (by simp) (by omega)).trans (heap_alloc_new _ _))
      have HWN : Hid (Wn w1 v1 l) := Lib.hid (Wn.of_own ho1)
      clear ho1 hw1
      go_wp2_with (first
        | (go_at_call 18; refine (c1.out _ _ _ _ _ HBX.out HWN.out (HT.out.keep O1.out)).mono ?_; rintro e2 w2 ⟨ev, rfl, he, he2, hcell, h2⟩; have he := he (by simp); subst he; clear he2; have O2 := Lib.hid h2; clear h2 c1)
        | fail)
      refine bodyPost_ret (results_tmp2 Tryd.results7 _ _ _) rfl ?_
      exact ⟨rfl, ofBoxQ O2.out O1.out (Nat.le_refl _)⟩
  | false =>
    have hz := hz rfl
    subst hz
    go_wp2_with (first
      | (at_builtin; refine wp_app_oc rfl _ _ 26 rfl Tryd.underlying26 hi hz0 hz1 hz2 (base := w.heap.size + 1) (B := w.heap.size) (v := .slice none 0 0) (ds := []) rfl (own_nilQ _ _ _) rfl (HV.out.keep (((Only.refl (fun _ => False) w).alloc _).kept0 (Nat.le_refl _))) ?_ ?_ ?_)
      | fail)
    · have := hlt.out; unfold lim2; first | omega | (simp; omega)
    · intro v1 w1 ho1 hw1
      have O1 : Hid (Only (fun _ => False) w w1) := Lib.hid (((Only.refl (fun _ => False) w).alloc _).own hw1 (Nat.le_succ _))
      have HBX : Hid (w1.heap[w.heap.size]? = some (.cells #[.int .i8 0] 38 (0, 0))) := Lib.hid ((hw1.block _ (by simp) (by omega)).trans (heap_alloc_new _ _))
      have HWN : Hid (Wn w1 v1 l) := Lib.hid (Wn.of_own ho1)
      clear ho1 hw1
      go_wp2_with (first
        | (go_at_call 18; refine (c1.out _ _ _ _ _ HBX.out HWN.out (HT.out.keep O1.out)).mono ?_; rintro e2 w2 ⟨ev, rfl, he, he2, hcell, h2⟩; obtain ⟨t2, u2, rfl⟩ := he2 (by simp); clear he; have O2 := Lib.hid h2; clear h2 c1)
        | fail)
      refine bodyPost_ret (results_tmp2 Tryd.results7 _ _ _) rfl ?_
      exact ⟨rfl, ofBoxQ O2.out O1.out (Nat.le_refl _)⟩
end Go.Proofs.YthlfepgcjomhpaaDoor.Kf
