/- Names of kinds: the reference's list is read; a text is plain; what was read is compared. -/
import Derived.Test.YthlfepgcjomhpaaDoorNsB
namespace Go.Proofs.YthlfepgcjomhpaaDoor.Kf
set_option linter.unusedVariables false
set_option linter.unusedSimpArgs false
open Go Go.RowKit

theorem boxN {w w1 : World} {A : Array Value} {e : Nat} (h : Only (fun _ => False) (w.alloc (.cells A e)) w1) (i : Nat) {v : Value} (hv : A[i]? = some v) : w1.cell? ⟨w.heap.size, i, none⟩ = some v := by
  have hb : w1.heap[w.heap.size]? = some (.cells A e) := by
    rw [h.block _ (by simp) id, heap_alloc_new]
  simp [World.cell?, hb, hv]
abbrev Nms := List (Int × List UInt8)
/-- A list of names in memory. -/
def NmsC (w : World) (v : Value) (l : Nms) : Prop :=
  ∃ D c, v = .slice (some ⟨D, 0, none⟩) l.length c ∧ l.length ≤ c ∧ D < w.heap.size ∧ ∀ (j : Nat) x, l[j]? = some x → w.cell? ⟨D, j * 2, none⟩ = some (.int .i64 x.1) ∧ w.cell? ⟨D, j * 2 + 1, none⟩ = some (.string ⟨x.2.toArray⟩)
theorem NmsC.keep {w w' : World} {v : Value} {l : Nms} (h : NmsC w v l) (ho : Only (fun _ => False) w w') : NmsC w' v l := by
  obtain ⟨D, c, h1, h2, h3, h4⟩ := h
  have hb : w'.heap[D]? = w.heap[D]? := ho.block D h3 fun x => x
  refine ⟨D, c, h1, h2, Nat.lt_of_lt_of_le h3 ho.size, fun j x hx => ?_⟩
  obtain ⟨a, b⟩ := h4 j x hx
  exact ⟨(World.cell?_of_block (w := w) hb).trans a, (World.cell?_of_block (w := w) hb).trans b⟩

theorem parsedL_drop {l : Nms} {k : Nat} {x : Int × List UInt8} (h : l[k]? = some x) (s : List UInt8) : parsedL (l.drop k) s = if normL x.2 = normL s then (x.1, true) else parsedL (l.drop (k + 1)) s := by
  have hk := (List.getElem?_eq_some_iff.1 h).1
  have e := (List.getElem?_eq_some_iff.1 h).2
  rw [List.drop_eq_getElem_cons hk, e]
  rfl

set_option maxRecDepth 100000 in
set_option maxHeartbeats 1000000 in
theorem parsed_c (w : World) (v : Value) (ns : Nms) (l : List UInt8) (hN : NmsC w v ns) (hn : ns.length ≤ 65536) (hw : ∀ x ∈ ns, x.2.length ≤ 4294967296) (hl : l.length ≤ 4294967296) :
    Calls Tryd.prog 19 #[v, .string ⟨l.toArray⟩] w fun e w' => e = .returned (.tuple #[.int .i64 (parsedL ns l).1, .bool (parsedL ns l).2]) ∧ Only (fun _ => False) w w' := by
  have HN := Lib.hid hN
  obtain ⟨D, c, rfl, hc, hD, _⟩ := hN
  obtain ⟨res, hres⟩ : ∃ res, parsedL ns l = res := ⟨_, rfl⟩
  rw [hres]
  have HR := Lib.hid hres
  clear hres
  have HWD := Lib.hid hw
  clear hw
  go_enter Tryd.func19, Tryd.ntmps19
  go_wp2
  go_loopw [7, 10] (fun _ i wr => ∃ k : Nat, k ≤ ns.length ∧ i = .int .i64 k ∧ parsedL (ns.drop k) l = res ∧ Only (fun _ => False) w wr) (fun _ i _ => ns.length - (intOf i).toNat)
  case atStart => exact ⟨0, Nat.zero_le _, rfl, by rw [List.drop_zero]; exact HR.out, Only.refl _ _⟩
  case round =>
    obtain ⟨k, hk, rfl, hpr, honly⟩ := hrel
    have HW := Lib.hid honly
    by_cases hlt : k < ns.length
    · obtain ⟨x, hx⟩ : ∃ x, ns[k]? = some x := ⟨ns[k], List.getElem?_eq_getElem hlt⟩
      obtain ⟨D', c', hv', _, hD', hcells⟩ := HN.out.keep HW.out
      obtain ⟨rfl, rfl⟩ : D = D' ∧ c = c' := by simpa using hv'
      obtain ⟨q0, q1⟩ := hcells k x hx
      have hwl := HWD.out x (List.mem_of_getElem? hx)
      have hst := parsedL_drop hx l
      rw [hpr] at hst
      clear hcells hv' hpr honly hD' hx
      obtain ⟨n, wd⟩ := x
      simp only at q0 q1 hwl hst
      have C1 := Lib.hid (fun (w1 : World) => normal_c w1 wd hwl)
      have C2 := Lib.hid (fun (w1 : World) => normal_c w1 l hl)
      clear hwl
      generalize normL wd = mw at *
      generalize normL l = ml at *
      have HST := Lib.hid hst
      clear hst
      have hlt' : (k : Int) < (ns.length : Int) := by omega
      have e1 : wrap64 ((k : Int) + 1) = (k : Int) + 1 := by unfold wrap64; omega
      go_wp2_with (first
        | (go_at_call 16; have hx := C1.out; refine (hx _).mono ?_; rintro e1 w1 ⟨rfl, h1⟩; have O1 := Lib.hid h1; clear h1 hx C1)
        | (go_at_call 16; refine (C2.out _).mono ?_; rintro e2 w2 ⟨rfl, h2⟩; have O2 := Lib.hid (O1.out.trans h2); have hq := boxN O2.out 0 rfl; clear h2 C2)
        | fail)
      · have hm : mw = ml := by simpa using (show (mw == ml) = true by assumption)
        have hr : res = (n, true) := by rw [HST.out, if_pos hm]
        subst hr
        refine bodyPost_ret (results_tmp2 Tryd.results19 _ _ _) rfl ?_
        exact ⟨rfl, HW.out.trans (((Only.refl _ _).alloc _).trans O2.out)⟩
      · have hm : ¬ mw = ml := by simpa using (show (mw == ml) = false by assumption)
        refine ⟨⟨k + 1, hlt, rfl, by rw [HST.out, if_neg hm], HW.out.trans (((Only.refl _ _).alloc _).trans O2.out)⟩, by simp [intOf]; omega⟩
    · have hk2 : k = ns.length := by omega
      subst hk2
      have hlt' : ¬ ((ns.length : Int) < (ns.length : Int)) := by omega
      rw [List.drop_length] at hpr
      subst hpr
      go_wp2_with fail
      refine bodyPost_ret (results_tmp2 Tryd.results19 _ _ _) rfl ?_
      exact ⟨rfl, HW.out⟩

set_option maxRecDepth 100000 in
set_option maxHeartbeats 1000000 in
theorem plain_c (w : World) (l : List UInt8) (hl : l.length ≤ 4294967296) :
    Calls Tryd.prog 5 #[.string ⟨l.toArray⟩] w fun e w' => (e = .returned (.bool false) ∨ (e = .returned (.bool true) ∧ l.length ≤ 200 ∧ Plain7 l)) ∧ Only (fun _ => False) w w' := by
  have hsz : (⟨l.toArray⟩ : ByteArray).size = l.length := rfl
  have C1 := Lib.hid (fun (w1 : World) => normal_c w1 l hl)
  generalize normL l = ml at *
  go_enter Tryd.func5, Tryd.ntmps5
  by_cases h2 : (l.length : Int) > 200
  · go_wp2_with fail
    go_ret
    exact ⟨.inl rfl, Only.refl _ _⟩
  · have hle : l.length ≤ 200 := by omega
    go_wp2_with (first
      | (go_at_call 16; refine (C1.out _).mono ?_; rintro e2 w2 ⟨rfl, h3⟩; have O2 := Lib.hid h3; clear h3 C1)
      | fail)
    · go_ret
      exact ⟨.inl rfl, O2.out⟩
    · go_loopw [3] (fun i wr => ∃ k : Nat, k ≤ l.length ∧ i = .int .i64 k ∧ wr = w2 ∧ ∀ (j : Nat) b, j < k → l[j]? = some b → b.toNat < 128) (fun i _ => l.length - (intOf i).toNat)
      case atStart => exact ⟨0, Nat.zero_le _, rfl, rfl, fun j b hj => absurd hj (by omega)⟩
      case round =>
        obtain ⟨k, hk, rfl, rfl, hno⟩ := hrel
        have HN := Lib.hid hno
        clear hno
        have HS := Lib.hid hsz
        have e1 : wrap64 ((k : Int) + 1) = (k : Int) + 1 := by unfold wrap64; omega
        by_cases hlt : k < l.length
        · obtain ⟨b, hb⟩ : ∃ b, l[k]? = some b := ⟨l[k], List.getElem?_eq_getElem hlt⟩
          have hx : (⟨l.toArray⟩ : ByteArray)[k] = b := by
            show l.toArray[k] = b
            simpa using (List.getElem?_eq_some_iff.1 hb).2
          have HB := Lib.hid hb
          clear hb
          go_wp2_with fail
          · go_ret
            exact ⟨.inl rfl, O2.out⟩
          · have hb128 : b.toNat < 128 := by have : (b.toNat : Int) ≤ 127 := by assumption
                                             omega
            refine ⟨⟨k + 1, hlt, rfl, trivial, fun j b' hj hb' => ?_⟩, by simp [intOf]; omega⟩
            by_cases hjk : j < k
            · exact HN.out j b' hjk hb'
            · have : j = k := by omega
              subst this
              rw [HB.out] at hb'
              cases hb'
              exact hb128
        · have hke : k = l.length := by omega
          subst hke
          go_wp2_with fail
          go_ret
          refine ⟨.inr ⟨rfl, hle, fun b hb => ?_⟩, O2.out⟩
          obtain ⟨j, hj, e⟩ := List.getElem_of_mem hb
          exact HN.out j b hj (by rw [← e]; exact List.getElem?_eq_getElem hj)

set_option maxRecDepth 100000 in
theorem parsed_is (w : World) (v : Value) (ns : Nms) (l : List UInt8) (n : Int) (ok : Bool) (hN : NmsC w v ns) (hn : ns.length ≤ 65536) (hw : ∀ x ∈ ns, x.2.length ≤ 4294967296) (hl : l.length ≤ 4294967296)
    (h1 : ok = (parsedL ns l).2) (h2 : ok = true → n = (parsedL ns l).1) :
    Calls Tryd.prog 8 #[v, .string ⟨l.toArray⟩, .int .i64 n, .bool ok] w fun e w' => e = .returned (.bool true) ∧ Only (fun _ => False) w w' := by
  have C1 := Lib.hid (parsed_c w v ns l hN hn hw hl)
  generalize parsedL ns l = res at *
  obtain ⟨m, ok2⟩ := res
  simp only at h1 h2 C1
  subst h1
  clear hN hw
  go_enter Tryd.func8, Tryd.ntmps8
  cases ok with
  | true =>
    have h3 := h2 rfl
    subst h3
    go_wp2_with (first
      | (go_at_call 19; refine C1.out.mono ?_; rintro e2 w2 ⟨rfl, h3⟩; have O2 := Lib.hid h3; clear h3 C1)
      | fail)
    go_ret
    exact ⟨by simp, O2.out⟩
  | false =>
    go_wp2_with (first
      | (go_at_call 19; refine C1.out.mono ?_; rintro e2 w2 ⟨rfl, h3⟩; have O2 := Lib.hid h3; clear h3 C1)
      | fail)
    go_ret
    exact ⟨by simp, O2.out⟩
end Go.Proofs.YthlfepgcjomhpaaDoor.Kf
