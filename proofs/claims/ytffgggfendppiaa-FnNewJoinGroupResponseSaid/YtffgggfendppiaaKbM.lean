/- The functions that write octets. -/
import Derived.Test.YtffgggfendppiaaKbL
import Derived.Test.YtffgggfendppiaaPD
namespace Go.Proofs.Ytffgggfendppiaa.Kf
set_option linter.unusedVariables false
set_option linter.unusedSimpArgs false
open Go Go.RowKit

theorem cnt_len4 (c : Bool) (n : Nat) : (cntEnc c 4 (some n)).length ≤ 10 := by
  cases c
  · simp [cntEnc, beEnc_length]
  · simp only [cntEnc]; exact uvEncF_len 10 (n + 1)

set_option maxRecDepth 100000 in
theorem app_byt (base : Nat) (w : World) (dst : Value) (ds s : List UInt8) (D p q : Nat) (hown : Own 5 base w dst ds) (hs : s.length ≤ 2147483646) (hb : base ≤ w.heap.size) (hD : D < base)
    (hcell : ∀ j b, s[j]? = some b → w.cell? ⟨D, p + j, none⟩ = some (u8v b)) (hl : ds.length + (s.length + 10) ≤ lim2) :
    Calls Try.prog 63 #[dst, .slice (some ⟨D, p, none⟩) s.length q] w (AppP 5 base w (ds ++ (cntEnc false 4 (some s.length) ++ s))) := by
  obtain ⟨i0, hi, hz0, hz1, hz2⟩ := info_u8
  have cA := Lib.hid (app_i32.2 base w dst ds (s.length : Int) hown (by omega) (by omega) hb (by omega))
  have HL := Lib.hid hl
  have HB := Lib.hid hb
  have HC := Lib.hid hcell
  clear hb hown hl hcell
  have h5 : (s.length : Int) ≤ 2147483646 := by omega
  go_enter Try.func63, Try.ntmps63
  go_wp2_with (first
    | (go_at_call 37; refine cA.out.mono ?_; rintro e1 w1 ⟨v1, rfl, ho1, hw1⟩; have HC1 := Lib.hid (fun j b h => (World.cell?_of_block (w := w) (w' := w1) (a := ⟨D, p + j, none⟩) (hw1.block D (Nat.lt_of_lt_of_le hD HB.out) (by omega))).trans (HC.out j b h)); have HO1 := Lib.hid ho1; have HW1 := Lib.hid hw1; clear ho1 hw1)
    | (at_builtin; refine wp_app_sp rfl (.tmp 10) (.tmp 11) 28 rfl Try.underlying28 hi hz0 hz1 hz2 rfl HO1.out rfl HC1.out (Nat.le_trans HB.out HW1.out.size) ?_ ?_; (have h7 := HL.out; have h8 := cnt_len4 false s.length; simp only [List.length_append] at *; (try simp only [cntEnc, Option.map_some, if_true] at h8); omega); intro v2 w2 ho2 hw2; have HO2 := Lib.hid ho2; have HW2 := Lib.hid hw2; clear ho2 hw2))
  go_ret
  exact ⟨_, rfl, by rw [← List.append_assoc]; exact HO2.out, HW1.out.trans HW2.out⟩
set_option maxRecDepth 100000 in
theorem app_cbyt (base : Nat) (w : World) (dst : Value) (ds s : List UInt8) (D p q : Nat) (hown : Own 5 base w dst ds) (hs : s.length ≤ 2147483646) (hb : base ≤ w.heap.size) (hD : D < base)
    (hcell : ∀ j b, s[j]? = some b → w.cell? ⟨D, p + j, none⟩ = some (u8v b)) (hl : ds.length + (s.length + 10) ≤ lim2) :
    Calls Try.prog 62 #[dst, .slice (some ⟨D, p, none⟩) s.length q] w (AppP 5 base w (ds ++ (cntEnc true 4 (some s.length) ++ s))) := by
  obtain ⟨i0, hi, hz0, hz1, hz2⟩ := info_u8
  have cA := Lib.hid (uv1 s.length hown (by omega) hb (by omega))
  have HL := Lib.hid hl
  have HB := Lib.hid hb
  have HC := Lib.hid hcell
  clear hb hown hl hcell
  have h5 : (s.length : Int) ≤ 2147483646 := by omega
  go_enter Try.func62, Try.ntmps62
  go_wp2_with (first
    | (go_at_call 46; refine cA.out.mono ?_; rintro e1 w1 ⟨v1, rfl, ho1, hw1⟩; have HC1 := Lib.hid (fun j b h => (World.cell?_of_block (w := w) (w' := w1) (a := ⟨D, p + j, none⟩) (hw1.block D (Nat.lt_of_lt_of_le hD HB.out) (by omega))).trans (HC.out j b h)); have HO1 := Lib.hid ho1; have HW1 := Lib.hid hw1; clear ho1 hw1)
    | (at_builtin; refine wp_app_sp rfl (.tmp 11) (.tmp 12) 28 rfl Try.underlying28 hi hz0 hz1 hz2 rfl HO1.out rfl HC1.out (Nat.le_trans HB.out HW1.out.size) ?_ ?_; (have h7 := HL.out; have h8 := cnt_len4 true s.length; simp only [List.length_append] at *; (try simp only [cntEnc, Option.map_some, if_true] at h8); omega); intro v2 w2 ho2 hw2; have HO2 := Lib.hid ho2; have HW2 := Lib.hid hw2; clear ho2 hw2))
  go_ret
  exact ⟨_, rfl, by rw [← List.append_assoc]; exact HO2.out, HW1.out.trans HW2.out⟩
set_option maxRecDepth 100000 in
theorem app_byt0 (base : Nat) (w : World) (dst : Value) (ds s : List UInt8) (p : Option Addr) (h0 : s = []) (hown : Own 5 base w dst ds) (hs : s.length ≤ 2147483646) (hb : base ≤ w.heap.size) (hl : ds.length + (s.length + 10) ≤ lim2) :
    Calls Try.prog 63 #[dst, .slice p s.length 0] w (AppP 5 base w (ds ++ (cntEnc false 4 (some s.length) ++ s))) := by
  obtain ⟨i0, hi, hz0, hz1, hz2⟩ := info_u8
  have cA := Lib.hid (app_i32.2 base w dst ds (s.length : Int) hown (by omega) (by omega) hb (by omega))
  have HL := Lib.hid hl
  have HB := Lib.hid hb
  have H0 := Lib.hid h0
  clear hb hown hl h0
  have h5 : (s.length : Int) ≤ 2147483646 := by omega
  go_enter Try.func63, Try.ntmps63
  go_wp2_with (first
    | (go_at_call 37; refine cA.out.mono ?_; rintro e1 w1 ⟨v1, rfl, ho1, hw1⟩; have HO1 := Lib.hid ho1; have HW1 := Lib.hid hw1; clear ho1 hw1)
    | (at_builtin; refine wp_app_sp0 rfl (.tmp 10) (.tmp 11) 28 rfl Try.underlying28 hi hz0 hz1 hz2 rfl HO1.out rfl H0.out rfl (Nat.le_trans HB.out HW1.out.size) ?_ ?_; (have h7 := HL.out; have h8 := cnt_len4 false s.length; simp only [List.length_append] at *; (try simp only [cntEnc, Option.map_some, if_true] at h8); omega); intro v2 w2 ho2 hw2; have HO2 := Lib.hid ho2; have HW2 := Lib.hid hw2; clear ho2 hw2))
  go_ret
  exact ⟨_, rfl, by rw [← List.append_assoc]; exact HO2.out, HW1.out.trans HW2.out⟩
theorem app_bytC : AppC Try.prog 5 63 (.byt false false) := by
  refine ⟨plain_g Try.func63 rfl rfl, fun D base w dst ds lo hi cs x hown hx hw hdb hb hl => ?_⟩
  rcases hx with ⟨h, _⟩ | ⟨_, rfl, p, rfl⟩ | ⟨s, v, rfl, rfl, hs⟩
  · cases h
  · have e : (enc (RK.byt false false).m.w (.bytes (some []))).length = (cntEnc false 4 (some 0)).length := by simp [RK.m, M.w, enc]
    exact app_byt0 base w dst ds [] p rfl hown (by simp) hb (by simp only [List.length_nil]; omega)
  · have e : (enc (RK.byt false false).m.w (.bytes (some s))).length = (cntEnc false 4 (some s.length)).length + s.length := by simp [RK.m, M.w, enc]
    rcases hs with ⟨h, _⟩ | ⟨_, p, q, rfl, hq, hcell⟩
    · cases h
    · exact app_byt base w dst ds s D p q hown hw hb hdb hcell (by omega)
set_option maxRecDepth 100000 in
theorem app_cbyt0 (base : Nat) (w : World) (dst : Value) (ds s : List UInt8) (p : Option Addr) (h0 : s = []) (hown : Own 5 base w dst ds) (hs : s.length ≤ 2147483646) (hb : base ≤ w.heap.size) (hl : ds.length + (s.length + 10) ≤ lim2) :
    Calls Try.prog 62 #[dst, .slice p s.length 0] w (AppP 5 base w (ds ++ (cntEnc true 4 (some s.length) ++ s))) := by
  obtain ⟨i0, hi, hz0, hz1, hz2⟩ := info_u8
  have cA := Lib.hid (uv1 s.length hown (by omega) hb (by omega))
  have HL := Lib.hid hl
  have HB := Lib.hid hb
  have H0 := Lib.hid h0
  clear hb hown hl h0
  have h5 : (s.length : Int) ≤ 2147483646 := by omega
  go_enter Try.func62, Try.ntmps62
  go_wp2_with (first
    | (go_at_call 46; refine cA.out.mono ?_; rintro e1 w1 ⟨v1, rfl, ho1, hw1⟩; have HO1 := Lib.hid ho1; have HW1 := Lib.hid hw1; clear ho1 hw1)
    | (at_builtin; refine wp_app_sp0 rfl (.tmp 11) (.tmp 12) 28 rfl Try.underlying28 hi hz0 hz1 hz2 rfl HO1.out rfl H0.out rfl (Nat.le_trans HB.out HW1.out.size) ?_ ?_; (have h7 := HL.out; have h8 := cnt_len4 true s.length; simp only [List.length_append] at *; (try simp only [cntEnc, Option.map_some, if_true] at h8); omega); intro v2 w2 ho2 hw2; have HO2 := Lib.hid ho2; have HW2 := Lib.hid hw2; clear ho2 hw2))
  go_ret
  exact ⟨_, rfl, by rw [← List.append_assoc]; exact HO2.out, HW1.out.trans HW2.out⟩
theorem app_cbytC : AppC Try.prog 5 62 (.byt true false) := by
  refine ⟨plain_g Try.func62 rfl rfl, fun D base w dst ds lo hi cs x hown hx hw hdb hb hl => ?_⟩
  rcases hx with ⟨h, _⟩ | ⟨_, rfl, p, rfl⟩ | ⟨s, v, rfl, rfl, hs⟩
  · cases h
  · have e : (enc (RK.byt true false).m.w (.bytes (some []))).length = (cntEnc true 4 (some 0)).length := by simp [RK.m, M.w, enc]
    exact app_cbyt0 base w dst ds [] p rfl hown (by simp) hb (by simp only [List.length_nil]; omega)
  · have e : (enc (RK.byt true false).m.w (.bytes (some s))).length = (cntEnc true 4 (some s.length)).length + s.length := by simp [RK.m, M.w, enc]
    rcases hs with ⟨h, _⟩ | ⟨_, p, q, rfl, hq, hcell⟩
    · cases h
    · exact app_cbyt base w dst ds s D p q hown hw hb hdb hcell (by omega)
end Go.Proofs.Ytffgggfendppiaa.Kf
