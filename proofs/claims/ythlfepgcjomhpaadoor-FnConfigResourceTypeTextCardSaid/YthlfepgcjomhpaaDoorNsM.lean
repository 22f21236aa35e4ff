/- The law FnParseQuotasMatchType, walked. -/
import Derived.Test.YthlfepgcjomhpaaDoorNsQ
namespace Go.Proofs.YthlfepgcjomhpaaDoor.Kf
set_option linter.unusedVariables false
set_option linter.unusedSimpArgs false
open Go Go.RowKit

/-- A text as octets. -/
theorem oc_bytes (w : World) (e : TypeId) (l : List UInt8) : Oc (Lib.bytesWorld w e ⟨l.toArray⟩) (Lib.bytesWorld w e ⟨l.toArray⟩).heap.size (.slice (some ⟨w.heap.size, 0, none⟩) l.length (grownCap w l.length 0 e)) l := by
  refine .inr ⟨⟨w.heap.size, 0, none⟩, grownCap w l.length 0 e, rfl, grownCap_ge _ _ _ _, fun j b hb => ⟨by rw [Lib.bytesWorld_size]; simp, ?_⟩⟩
  have hj : j < l.length := (List.getElem?_eq_some_iff.1 hb).1
  have e1 : (⟨w.heap.size, 0, none⟩ : Addr).add j = ⟨w.heap.size, 0 + j, none⟩ := by simp [Addr.add]; intro h; exact h.symm
  rw [e1, Nat.zero_add, Lib.bytesWorld_cell w e ⟨l.toArray⟩ j hj]
  simp [u8v, hb]
theorem conv_bytes (w : World) (l : List UInt8) : (convert 9 26 (.string ⟨l.toArray⟩)).run Tryd.prog w = .ok (.slice (some ⟨w.heap.size, 0, none⟩) l.length (grownCap w l.length 0 5)) (Lib.bytesWorld w 5 ⟨l.toArray⟩) :=
  Lib.run_convert_string_bytes w 9 26 5 ⟨l.toArray⟩ (u := .string) Tryd.underlying9 Tryd.underlying26 Tryd.underlying5

theorem plain_b (w : World) (l : List UInt8) (hl : l.length ≤ 4294967296) : Calls Tryd.prog 5 #[.string ⟨l.toArray⟩] w fun e w' => ∃ bb, e = .returned (.bool bb) ∧ (bb = true → l.length ≤ 200 ∧ Plain7 l) ∧ Only (fun _ => False) w w' :=
  (plain_c w l hl).mono fun e w' h => by
    rcases h with ⟨h | h, ho⟩
    · exact ⟨false, h, fun h => absurd h (by decide), ho⟩
    · exact ⟨true, h.1, fun _ => h.2, ho⟩
set_option maxRecDepth 100000 in
set_option maxHeartbeats 1000000 in
theorem lawP {w : World} {l : List UInt8} (ht : Asc w) : Calls Tryd.prog 3 #[.string ⟨l.toArray⟩] w fun e w' => e = .returned (.bool true) ∧ Only (fun _ => False) w w' := by
  have hsz : (⟨l.toArray⟩ : ByteArray).size = l.length := rfl
  have HT := Lib.hid ht
  clear ht
  go_enter Tryd.func3, Tryd.ntmps3
  by_cases hbig : (l.length : Int) > 2147483647
  · go_wp2_with fail
    go_ret
    exact ⟨rfl, Only.refl _ _⟩
  · have hl : l.length ≤ 4294967296 := by omega
    have C1 := Lib.hid (fun (w1 : World) => plain_b w1 l hl)
    have HS0 := Lib.hid hbig
    have hlen : ¬ ((l.length : Int) > 2147483647) := hbig
    clear hbig
    go_wp2_with (first
      | (go_at_call 5; refine (C1.out _).mono ?_; rintro e1 w1 ⟨bb, rfl, hor, h1⟩; have O1 := Lib.hid h1; have HOR := Lib.hid hor; clear h1 hor C1; cases bb)
      | (go_at_call 6; have hp := HOR.out (by simp); refine (implQ _ l hl hp.2 (HT.out.keep O1.out)).mono ?_; rintro e2 w2 ⟨rfl, h2⟩; have O2 := Lib.hid (O1.out.trans h2); clear h2 hp)
      | (rw [conv_bytes]; simp only [Result.andThen]; rw [Oper.upon_value]; have HOC := Lib.hid (oc_bytes w2 5 l); have OB := Lib.hid (O2.out.of_below (bw_below w2 5 ⟨l.toArray⟩)); generalize Lib.bytesWorld w2 5 ⟨l.toArray⟩ = wb at HOC OB ⊢; generalize grownCap w2 l.length 0 5 = gc at HOC ⊢)
      | (go_at_call 7; have hp := HOR.out (by simp); refine (textQ _ _ l HOC.out (Nat.le_trans hp.1 (by decide)) hp.2 (HT.out.keep OB.out)).mono ?_; rintro e3 w3 ⟨rfl, h3⟩; have O3 := Lib.hid (OB.out.trans h3); clear h3 hp)
      | (go_at_call 9; have hx := O3.out; refine (specQ _).mono ?_; rintro e4 w4 ⟨⟨v4, rfl, hn4⟩, h4⟩; have O4 := Lib.hid (hx.trans h4); have HN4 := Lib.hid hn4; clear h4 hn4 hx O3)
      | (go_at_call 8; have hx := O4.out; refine (parsed_is _ _ namesQ l _ _ HN4.out namesQ_len.1 namesQ_len.2 hl rfl (fun _ => rfl)).mono ?_; rintro e5 w5 ⟨rfl, h5⟩; have O5 := Lib.hid (hx.trans h5); clear h5 hx O4 HN4)
      | (go_at_call 9; have hx := O5.out; refine (specQ _).mono ?_; rintro e6 w6 ⟨⟨v6, rfl, hn6⟩, h6⟩; have O6 := Lib.hid (hx.trans h6); have HN6 := Lib.hid hn6; clear h6 hn6 hx O5)
      | (go_at_call 8; have hx := O6.out; refine (parsed_is _ _ namesQ l _ _ HN6.out namesQ_len.1 namesQ_len.2 hl rfl (fun _ => rfl)).mono ?_; rintro e7 w7 ⟨rfl, h7⟩; have O7 := Lib.hid (hx.trans h7); clear h7 hx O6 HN6)
      | fail)
    · go_ret
      exact ⟨rfl, O1.out⟩
    · go_ret
      exact ⟨rfl, O7.out⟩
end Go.Proofs.YthlfepgcjomhpaaDoor.Kf
