/- The functions that write texts. -/
import Derived.Test.YtpefipjgcpchaaaGreatDoorRKbJ
namespace Go.Proofs.YtpefipjgcpchaaaGreatDoorR.Kf
set_option linter.unusedVariables false
set_option linter.unusedSimpArgs false
open Go Go.RowKit

theorem uvEncF_len : ∀ (f n : Nat), (uvEncF f n).length ≤ f := by
  intro f
  induction f with
  | zero => intro n; simp [uvEncF]
  | succ f ih =>
    intro n
    simp only [uvEncF]
    split
    · simp
    · have := ih (n / 128); simp; omega
theorem cnt_len (c : Bool) (n : Nat) (hn : n ≤ 32767) : (cntEnc c 2 (some n)).length ≤ 10 := by
  cases c
  · simp [cntEnc, beEnc_length]
  · simp only [cntEnc]; exact uvEncF_len 10 (n + 1)

set_option maxRecDepth 100000 in
theorem app_str (base : Nat) (w : World) (dst : Value) (ds s : List UInt8) (hown : Own 5 base w dst ds) (hs : s.length ≤ 32767) (hb : base ≤ w.heap.size) (hl : ds.length + (s.length + 10) ≤ lim2) :
    Calls Tryz.prog 56 #[dst, .string ⟨s.toArray⟩] w (AppP 5 base w (ds ++ (cntEnc false 2 (some s.length) ++ s))) := by
  obtain ⟨i0, hi, hz0, hz1, hz2⟩ := info_u8
  have cA := Lib.hid (app_i16.2 base w dst ds (s.length : Int) hown (by omega) (by omega) hb (by omega))
  have hsz : (⟨s.toArray⟩ : ByteArray).size = s.length := rfl
  have HL := Lib.hid hl
  have HB := Lib.hid hb
  clear hb hown hl
  have h5 : (s.length : Int) ≤ 32767 := by omega
  go_enter Tryz.func56, Tryz.ntmps56
  go_wp2_with (first
    | (go_at_call 54; refine cA.out.mono ?_; rintro e1 w1 ⟨v1, rfl, ho1, hw1⟩; have HO1 := Lib.hid ho1; have HW1 := Lib.hid hw1; clear ho1 hw1)
    | (at_builtin; refine wp_app_str rfl (.tmp 10) (.tmp 11) 22 9 rfl Tryz.underlying22 Tryz.underlying9 hi hz0 hz1 hz2 rfl HO1.out rfl (Nat.le_trans HB.out HW1.out.size) ?_ ?_; (have h7 := HL.out; have h8 := cnt_len false s.length hs; simp only [List.length_append] at *; (try simp only [cntEnc, Option.map_some, if_true] at h8); omega); intro v2 w2 ho2 hw2; have HO2 := Lib.hid ho2; have HW2 := Lib.hid hw2; clear ho2 hw2))
  go_ret
  exact ⟨_, rfl, by rw [← List.append_assoc]; exact HO2.out, HW1.out.trans HW2.out⟩
set_option maxRecDepth 100000 in
theorem app_cstr (base : Nat) (w : World) (dst : Value) (ds s : List UInt8) (hown : Own 5 base w dst ds) (hs : s.length ≤ 32767) (hb : base ≤ w.heap.size) (hl : ds.length + (s.length + 10) ≤ lim2) :
    Calls Tryz.prog 55 #[dst, .string ⟨s.toArray⟩] w (AppP 5 base w (ds ++ (cntEnc true 2 (some s.length) ++ s))) := by
  obtain ⟨i0, hi, hz0, hz1, hz2⟩ := info_u8
  have cA := Lib.hid (uv1 s.length hown (by omega) hb (by omega))
  have hsz : (⟨s.toArray⟩ : ByteArray).size = s.length := rfl
  have HL := Lib.hid hl
  have HB := Lib.hid hb
  clear hb hown hl
  have h5 : (s.length : Int) ≤ 32767 := by omega
  go_enter Tryz.func55, Tryz.ntmps55
  go_wp2_with (first
    | (go_at_call 43; refine cA.out.mono ?_; rintro e1 w1 ⟨v1, rfl, ho1, hw1⟩; have HO1 := Lib.hid ho1; have HW1 := Lib.hid hw1; clear ho1 hw1)
    | (at_builtin; refine wp_app_str rfl (.tmp 11) (.tmp 12) 22 9 rfl Tryz.underlying22 Tryz.underlying9 hi hz0 hz1 hz2 rfl HO1.out rfl (Nat.le_trans HB.out HW1.out.size) ?_ ?_; (have h7 := HL.out; have h8 := cnt_len true s.length hs; simp only [List.length_append] at *; (try simp only [cntEnc, Option.map_some, if_true] at h8); omega); intro v2 w2 ho2 hw2; have HO2 := Lib.hid ho2; have HW2 := Lib.hid hw2; clear ho2 hw2))
  go_ret
  exact ⟨_, rfl, by rw [← List.append_assoc]; exact HO2.out, HW1.out.trans HW2.out⟩
end Go.Proofs.YtpefipjgcpchaaaGreatDoorR.Kf
