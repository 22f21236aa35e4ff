/- ConfigResourceType: a text is read as the value whose word it is. -/
import Derived.Test.YthlfepgcjomhpaaDoorNsC
namespace Go.Proofs.YthlfepgcjomhpaaDoor.Kf
set_option linter.unusedVariables false
set_option linter.unusedSimpArgs false
open Go Go.RowKit

def lowR : Nms := [(2, [116, 111, 112, 105, 99]), (4, [98, 114, 111, 107, 101, 114]), (8, [98, 114, 111, 107, 101, 114, 108, 111, 103, 103, 101, 114]), (16, [99, 108, 105, 101, 110, 116, 109, 101, 116, 114, 105, 99, 115]), (32, [103, 114, 111, 117, 112, 99, 111, 110, 102, 105, 103])]
def namesR : Nms := [(2, [84, 79, 80, 73, 67]), (4, [66, 82, 79, 75, 69, 82]), (8, [66, 82, 79, 75, 69, 82, 95, 76, 79, 71, 71, 69, 82]), (16, [67, 76, 73, 69, 78, 84, 95, 77, 69, 84, 82, 73, 67, 83]), (32, [71, 82, 79, 85, 80, 95, 67, 79, 78, 70, 73, 71])]
theorem namesR_low : namesR.map (fun x => (x.1, normL x.2)) = lowR := by decide
theorem namesR_len : namesR.length ≤ 65536 ∧ ∀ x ∈ namesR, x.2.length ≤ 4294967296 := ⟨by decide, by decide⟩

set_option maxRecDepth 100000 in
theorem specR (w : World) : Calls Tryd.prog 11 #[] w fun e w' => (∃ v, e = .returned v ∧ NmsC w' v namesR) ∧ Only (fun _ => False) w w' := by
  go_enter Tryd.func11, Tryd.ntmps11
  go_wp2
  go_ret
  refine ⟨⟨_, rfl, w.heap.size, 5, rfl, by decide, by simp, fun j x hx => ?_⟩, (Only.refl _ _).alloc _⟩
  have hj : j < 5 := (List.getElem?_eq_some_iff.1 hx).1
  have : j = 0 ∨ j = 1 ∨ j = 2 ∨ j = 3 ∨ j = 4 := by omega
  rcases this with rfl | rfl | rfl | rfl | rfl <;> (cases hx; exact ⟨by rw [World.cell?_alloc_mark]; rfl, by rw [World.cell?_alloc_mark]; rfl⟩)

set_option maxRecDepth 100000 in
theorem readR (w : World) (l : List UInt8) (hl : l.length ≤ 4294967296) (ha : Plain7 l) (ht : Asc w) :
    Calls Tryd.prog 22 #[.string ⟨l.toArray⟩] w (RdW lowR (normL l) w) := by
  have c1 := Lib.hid (fun (w1 : World) (h : Asc w1) => strnorm_c w1 l hl ha h)
  have HT := Lib.hid ht
  clear ha ht
  generalize normL l = m at *
  go_enter Tryd.func22, Tryd.ntmps22
  go_wp2_with (first
    | (go_at_call 25; refine (c1.out _ HT.out).mono ?_; rintro e1 w1 ⟨rfl, h1⟩; have O1 := Lib.hid h1; clear h1 c1)
    | (go_at_call 26; refine (err_new _ _).mono ?_; rintro e2 w2 ⟨⟨t2, v2, rfl⟩, h2⟩; have O2 := Lib.hid (O1.out.trans h2); clear h2)
    | fail)
  · have hm : m = [116, 111, 112, 105, 99] := by simpa using (show (m == [116, 111, 112, 105, 99]) = true by assumption)
    subst hm
    refine bodyPost_ret (results_tmp2 Tryd.results22 _ _ _) rfl ?_
    exact ⟨.nilIface, rfl, fun _ => rfl, fun h => absurd h (by decide), O1.out⟩
  · have hm : m = [98, 114, 111, 107, 101, 114] := by simpa using (show (m == [98, 114, 111, 107, 101, 114]) = true by assumption)
    subst hm
    refine bodyPost_ret (results_tmp2 Tryd.results22 _ _ _) rfl ?_
    exact ⟨.nilIface, rfl, fun _ => rfl, fun h => absurd h (by decide), O1.out⟩
  · have hm : m = [98, 114, 111, 107, 101, 114, 108, 111, 103, 103, 101, 114] := by simpa using (show (m == [98, 114, 111, 107, 101, 114, 108, 111, 103, 103, 101, 114]) = true by assumption)
    subst hm
    refine bodyPost_ret (results_tmp2 Tryd.results22 _ _ _) rfl ?_
    exact ⟨.nilIface, rfl, fun _ => rfl, fun h => absurd h (by decide), O1.out⟩
  · have hm : m = [99, 108, 105, 101, 110, 116, 109, 101, 116, 114, 105, 99, 115] := by simpa using (show (m == [99, 108, 105, 101, 110, 116, 109, 101, 116, 114, 105, 99, 115]) = true by assumption)
    subst hm
    refine bodyPost_ret (results_tmp2 Tryd.results22 _ _ _) rfl ?_
    exact ⟨.nilIface, rfl, fun _ => rfl, fun h => absurd h (by decide), O1.out⟩
  · have hm : m = [103, 114, 111, 117, 112, 99, 111, 110, 102, 105, 103] := by simpa using (show (m == [103, 114, 111, 117, 112, 99, 111, 110, 102, 105, 103]) = true by assumption)
    subst hm
    refine bodyPost_ret (results_tmp2 Tryd.results22 _ _ _) rfl ?_
    exact ⟨.nilIface, rfl, fun _ => rfl, fun h => absurd h (by decide), O1.out⟩
  · refine bodyPost_ret (results_tmp2 Tryd.results22 _ _ _) rfl ?_
    have hm : lk lowR m = (0, false) := by
      have h0 : ¬ [116, 111, 112, 105, 99] = m := fun h => by subst h; simp at *
      have h1 : ¬ [98, 114, 111, 107, 101, 114] = m := fun h => by subst h; simp at *
      have h2 : ¬ [98, 114, 111, 107, 101, 114, 108, 111, 103, 103, 101, 114] = m := fun h => by subst h; simp at *
      have h3 : ¬ [99, 108, 105, 101, 110, 116, 109, 101, 116, 114, 105, 99, 115] = m := fun h => by subst h; simp at *
      have h4 : ¬ [103, 114, 111, 117, 112, 99, 111, 110, 102, 105, 103] = m := fun h => by subst h; simp at *
      simp only [lowR, lk, if_neg h0, if_neg h1, if_neg h2, if_neg h3, if_neg h4]
    refine ⟨.iface t2 v2, by rw [hm]; rfl, ?_, ?_, O2.out⟩
    · intro h; rw [hm] at h; cases h
    · exact fun _ => ⟨_, _, rfl⟩

/-- What the thin package's reading gives. -/
def RdR (l : List UInt8) (w : World) (e : Ending) (w' : World) : Prop := e = .returned (.tuple #[.int .i64 (parsedL namesR l).1, .bool (parsedL namesR l).2]) ∧ Only (fun _ => False) w w'
theorem lk_rngR (m : List UInt8) : (0 ≤ (lk lowR m).1 ∧ (lk lowR m).1 ≤ 127) ∧ ((lk lowR m).2 = false → (lk lowR m).1 = 0) := by
  simp only [lowR, lk]
  repeat' split
  all_goals simp

set_option maxRecDepth 100000 in
theorem implR (w : World) (l : List UInt8) (hl : l.length ≤ 4294967296) (ha : Plain7 l) (ht : Asc w) :
    Calls Tryd.prog 14 #[.string ⟨l.toArray⟩] w (RdR l w) := by
  have c1 := Lib.hid (fun (w1 : World) (h : Asc w1) => readR w1 l hl ha h)
  have HT := Lib.hid ht
  unfold RdR
  rw [parsed_lk, namesR_low]
  obtain ⟨hr, hz⟩ := lk_rngR (normL l)
  unfold RdW at c1
  clear ha ht
  generalize lk lowR (normL l) = p at *
  obtain ⟨n, ok⟩ := p
  simp only at *
  have hwr : IntKind.i64.wrap n = n := by unfold IntKind.wrap; simp [IntKind.signed, IntKind.bits] <;> omega
  have hw64 : wrap64 n = n := by unfold wrap64; omega
  go_enter Tryd.func14, Tryd.ntmps14
  cases ok with
  | true =>
    go_wp2_with (first
      | (go_at_call 22; refine (c1.out _ HT.out).mono ?_; rintro e1 w1 ⟨ev, rfl, he, _, h1⟩; have he := he rfl; subst he; have O1 := Lib.hid h1; clear h1 c1)
      | fail)
    refine bodyPost_ret (results_tmp2 Tryd.results14 _ _ _) rfl ?_
    exact ⟨rfl, O1.out⟩
  | false =>
    have hz := hz rfl
    subst hz
    go_wp2_with (first
      | (go_at_call 22; refine (c1.out _ HT.out).mono ?_; rintro e1 w1 ⟨ev, rfl, _, he, h1⟩; obtain ⟨t2, v2, rfl⟩ := he rfl; have O1 := Lib.hid h1; clear h1 c1)
      | fail)
    refine bodyPost_ret (results_tmp2 Tryd.results14 _ _ _) rfl ?_
    exact ⟨rfl, O1.out⟩

theorem cell0R {w : World} {b : Nat} {c0 : Value} {e : TypeId} (h : w.heap[b]? = some (.cells #[c0] e (0, 0))) : w.cell? ⟨b, 0, none⟩ = some c0 := by simp [World.cell?, h]
theorem frz0R {w : World} {b : Nat} {c0 : Value} {e : TypeId} (h : w.heap[b]? = some (.cells #[c0] e (0, 0))) : w.frozen? ⟨b, 0, none⟩ = false := by simp [World.frozen?, h]
set_option maxRecDepth 100000 in
theorem umR (w : World) (b : Nat) (c0 : Value) (e0 : TypeId) (v : Value) (l : List UInt8) (hb : w.heap[b]? = some (.cells #[c0] e0 (0, 0))) (hv : Wn w v l) (hl : l.length ≤ 4294967296) (ha : Plain7 l) (ht : Asc w) :
    Calls Tryd.prog 23 #[.pointer (some ⟨b, 0, none⟩), v] w fun e w' => ∃ ev, e = .returned ev ∧ ((lk lowR (normL l)).2 = true → ev = .nilIface) ∧ ((lk lowR (normL l)).2 = false → ∃ t u, ev = .iface t u) ∧
      w'.cell? ⟨b, 0, none⟩ = some (.int .i8 (lk lowR (normL l)).1) ∧ Only (· = b) w w' := by
  have c1 := Lib.hid (fun (w1 : World) (h : Asc w1) => readR w1 l hl ha h)
  have HT := Lib.hid ht
  have HV := Lib.hid hv
  have HB := Lib.hid hb
  unfold RdW at c1
  obtain ⟨A, c, rfl, _⟩ := hv.len
  clear ha ht hv hb
  generalize lk lowR (normL l) = p at *
  obtain ⟨n, ok⟩ := p
  simp only at *
  go_enter Tryd.func23, Tryd.ntmps23
  go_wp2_with (first
    | (rw [HV.out.conv Tryd.underlying26 Tryd.underlying5 Tryd.underlying9]; simp only [Result.andThen]; rw [Oper.upon_value])
    | (go_at_call 22; refine (c1.out _ HT.out).mono ?_; rintro e1 w1 ⟨ev, rfl, hx, hy, h1⟩; have O1 := Lib.hid h1; have HX := Lib.hid hx; have HY := Lib.hid hy; have hb1 := (h1.block b (Array.getElem?_eq_some_iff.1 HB.out).1 id).trans HB.out; have hc : w1.cell? ⟨b, 0, none⟩ = some c0 := cell0R hb1; have hfz := frz0R hb1; clear hb1; clear h1 hx hy c1)
    | fail)
  go_ret
  refine ⟨ev, rfl, HX.out, HY.out, ?_, ?_⟩
  · exact World.cell?_setCell_same' _ _ _ (by rw [hc]; rfl)
  · exact (O1.out.mono fun _ _ h => h.elim).setCell _ _

theorem own_nilR (U base : Nat) (w : World) : Own U base w (.slice none 0 0) [] := World.ownsRow_nil _ _ _ _
theorem ofBoxR {w w1 : World} {b : Nat} (h : Only (· = b) w w1) {w0 : World} (hw : Only (fun _ => False) w0 w) (hb : w0.heap.size ≤ b) : Only (fun _ => False) w0 w1 :=
  ⟨h.os.trans hw.os, h.tape.trans hw.tape, h.output.trans hw.output, Nat.le_trans hw.size h.size, fun k hk hs => (h.block k (Nat.lt_of_lt_of_le hk hw.size) (by omega)).trans (hw.block k hk hs)⟩
set_option maxRecDepth 100000 in
set_option maxHeartbeats 1000000 in
theorem textR (w : World) (v : Value) (l : List UInt8) (hv : Oc w w.heap.size v l) (hl : l.length ≤ 65536) (ha : Plain7 l) (ht : Asc w) :
    Calls Tryd.prog 15 #[v] w (RdR l w) := by
  obtain ⟨i0, hi, hz0, hz1, hz2⟩ := info_u8
  have HT := Lib.hid ht
  have HV := Lib.hid hv
  have HA := Lib.hid ha
  unfold RdR
  rw [parsed_lk, namesR_low]
  have c1 := Lib.hid (fun (w1 : World) (b : Nat) (c0 : Value) (e0 : TypeId) (u : Value) h1 h2 h3 => umR w1 b c0 e0 u l h1 h2 (by omega) ha h3)
  obtain ⟨hr, hz⟩ := lk_rngR (normL l)
  obtain ⟨A, c, rfl, _⟩ := hv.sl
  clear ha ht hv
  generalize lk lowR (normL l) = p at *
  obtain ⟨n, ok⟩ := p
  simp only at *
  have hw64 : wrap64 n = n := by unfold wrap64; omega
  have hlt := Lib.hid hl
  go_enter Tryd.func15, Tryd.ntmps15
  cases ok with
  | true =>
    clear hz
    go_wp2_with (first
      | (at_builtin; refine wp_app_oc rfl _ _ 26 rfl Tryd.underlying26 hi hz0 hz1 hz2 (base := w.heap.size + 1) (B := w.heap.size) (v := .slice none 0 0) (ds := []) rfl (own_nilR _ _ _) rfl (HV.out.keep (((Only.refl (fun _ => False) w).alloc _).kept0 (Nat.le_refl _))) ?_ ?_ ?_)
      | fail)
    · have := hlt.out; unfold lim2; first | omega | (simp; omega)
    · intro v1 w1 ho1 hw1
      have O1 : Hid (Only (fun _ => False) w w1) := Lib.hid (((Only.refl (fun _ => False) w).alloc _).own hw1 (Nat.le_succ _))
      have HBX : Hid (w1.heap[w.heap.size]? = some (.cells #[.int .i8 0] 48 (0, 0))) := Lib.hid ((hw1.block _ (by simp) (by omega)).trans (heap_alloc_new _ _))
      have HWN : Hid (Wn w1 v1 l) := Lib.hid (Wn.of_own ho1)
      clear ho1 hw1
      go_wp2_with (first
        | (go_at_call 23; refine (c1.out _ _ _ _ _ HBX.out HWN.out (HT.out.keep O1.out)).mono ?_; rintro e2 w2 ⟨ev, rfl, he, he2, hcell, h2⟩; have he := he (by simp); subst he; clear he2; have O2 := Lib.hid h2; clear h2 c1)
        | fail)
      refine bodyPost_ret (results_tmp2 Tryd.results15 _ _ _) rfl ?_
      exact ⟨rfl, ofBoxR O2.out O1.out (Nat.le_refl _)⟩
  | false =>
    have hz := hz rfl
    subst hz
    go_wp2_with (first
      | (at_builtin; refine wp_app_oc rfl _ _ 26 rfl Tryd.underlying26 hi hz0 hz1 hz2 (base := w.heap.size + 1) (B := w.heap.size) (v := .slice none 0 0) (ds := []) rfl (own_nilR _ _ _) rfl (HV.out.keep (((Only.refl (fun _ => False) w).alloc _).kept0 (Nat.le_refl _))) ?_ ?_ ?_)
      | fail)
    · have := hlt.out; unfold lim2; first | omega | (simp; omega)
    · intro v1 w1 ho1 hw1
      have O1 : Hid (Only (fun _ => False) w w1) := Lib.hid (((Only.refl (fun _ => False) w).alloc _).own hw1 (Nat.le_succ _))
      have HBX : Hid (w1.heap[w.heap.size]? = some (.cells #[.int .i8 0] 48 (0, 0))) := Lib.hid ((hw1.block _ (by simp) (by omega)).trans (heap_alloc_new _ _))
      have HWN : Hid (Wn w1 v1 l) := Lib.hid (Wn.of_own ho1)
      clear ho1 hw1
      go_wp2_with (first
        | (go_at_call 23; refine (c1.out _ _ _ _ _ HBX.out HWN.out (HT.out.keep O1.out)).mono ?_; rintro e2 w2 ⟨ev, rfl, he, he2, hcell, h2⟩; obtain ⟨t2, u2, rfl⟩ := he2 (by simp); clear he; have O2 := Lib.hid h2; clear h2 c1)
        | fail)
      refine bodyPost_ret (results_tmp2 Tryd.results15 _ _ _) rfl ?_
      exact ⟨rfl, ofBoxR O2.out O1.out (Nat.le_refl _)⟩
end Go.Proofs.YthlfepgcjomhpaaDoor.Kf
