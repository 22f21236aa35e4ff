/- The reader's functions that read texts, octets, lengths. -/
import Derived.Test.YtoohbljhpfamlaaDoorKbB
import Derived.Test.YtoohbljhpfamlaaDoorKbC
import Derived.Test.YtoohbljhpfamlaaDoorKbU
import Derived.Test.YtoohbljhpfamlaaDoorKbE
namespace Go.Proofs.YtoohbljhpfamlaaDoor.Kf
set_option linter.unusedVariables false
set_option linter.unusedSimpArgs false
open Go Go.RowKit

set_option maxRecDepth 100000 in
theorem rd_string : RdC Tryd.prog 111 (.str false false) := by
  refine rdC (plain_f' Tryd.func111 rfl rfl) fun D rb w nn bs bad h hl => ?_
  have cI := Lib.hid (rd_int16.2 D rb w nn bs bad h hl)
  have HL := Lib.hid hl
  clear h hl
  go_enter Tryd.func111, Tryd.ntmps111
  go_wp2_with (first
    | (go_at_call 119; refine cI.out.mono ?_; intro e1 w1 hu; obtain ⟨n, nn1, bs1, bad1, rfl, h0, h1, ho, hr1, hl1, hR⟩ := NumQ.uni (.inl rfl) hu; clear hu; have HR1 := Lib.hid hr1; have HL1 := Lib.hid hl1; have HC := Lib.hid hR; have HO := Lib.hid ho; clear hr1 hl1 hR ho; simp only [primV])
    | (go_at_call 146; refine (rd_span.2 D rb w1 nn1 bs1 bad1 n HR1.out ?_ ?_ ?_).mono ?_; (exact Nat.le_trans HL1.out HL.out); omega; omega; intro e2 w2 hu2; obtain ⟨v, nnv, s, nn2, bs2, bad2, rfl, ho2, hr2, hl2, hs2, hS⟩ := SpanP.uni hu2; clear hu2; have hcv : (convert 22 9 v).run Tryd.prog w2 = .ok (.string ⟨s.toArray⟩) w2 := conv_str (P := Tryd.prog) hs2 Tryd.underlying22 Tryd.underlying5 Tryd.underlying9; have HO2 := Lib.hid ho2; have HR2 := Lib.hid hr2; have HL2 := Lib.hid hl2; have HS2 := Lib.hid hs2; have HSS := Lib.hid hS; clear ho2 hr2 hl2 hs2 hS))
  go_ret
  exact RdP.str (HO.out.trans HO2.out) HC.out HSS.out HL1.out HR2.out

set_option maxRecDepth 100000 in
theorem rd_cstring : RdC Tryd.prog 110 (.str true false) := by
  refine rdC (plain_f' Tryd.func110 rfl rfl) fun D rb w nn bs bad h hl => ?_
  have cI := Lib.hid (rd_uvarint.2 D rb w nn bs bad h hl)
  have HL := Lib.hid hl
  clear h hl
  go_enter Tryd.func110, Tryd.ntmps110
  go_wp2_with (first
    | (go_at_call 144; refine cI.out.mono ?_; intro e1 w1 hu; obtain ⟨x, nn1, bs1, bad1, rfl, hx, ho, hr1, hl1, hR⟩ := UvrP.uni (p := .i16) hu; clear hu; have HR1 := Lib.hid hr1; have HL1 := Lib.hid hl1; have HC := Lib.hid hR; have HO := Lib.hid ho; clear hr1 hl1 hR ho)
    | (go_at_call 146; refine (rd_span.2 D rb w1 nn1 bs1 bad1 ((x : Int) - 1) HR1.out ?_ ?_ ?_).mono ?_; (exact Nat.le_trans HL1.out HL.out); omega; omega; intro e2 w2 hu2; obtain ⟨v, nnv, s, nn2, bs2, bad2, rfl, ho2, hr2, hl2, hs2, hS⟩ := SpanP.uni hu2; clear hu2; have hcv : (convert 22 9 v).run Tryd.prog w2 = .ok (.string ⟨s.toArray⟩) w2 := conv_str (P := Tryd.prog) hs2 Tryd.underlying22 Tryd.underlying5 Tryd.underlying9; have HO2 := Lib.hid ho2; have HR2 := Lib.hid hr2; have HL2 := Lib.hid hl2; have HS2 := Lib.hid hs2; have HSS := Lib.hid hS; clear ho2 hr2 hl2 hs2 hS))
  go_ret
  exact RdP.str (HO.out.trans HO2.out) HC.out HSS.out HL1.out HR2.out

set_option maxRecDepth 100000 in
theorem rd_nstring : RdC Tryd.prog 123 (.str false true) := by
  refine rdC (plain_f' Tryd.func123 rfl rfl) fun D rb w nn bs bad h hl => ?_
  have cI := Lib.hid (rd_int16.2 D rb w nn bs bad h hl)
  have HL := Lib.hid hl
  clear h hl
  go_enter Tryd.func123, Tryd.ntmps123
  go_wp2_with (first
    | (go_at_call 119; refine cI.out.mono ?_; intro e1 w1 hu; obtain ⟨n, nn1, bs1, bad1, rfl, h0, h1, ho, hr1, hl1, hR⟩ := NumQ.uni (.inl rfl) hu; clear hu; have HR1 := Lib.hid hr1; have HL1 := Lib.hid hl1; have HC := Lib.hid hR; have HO := Lib.hid ho; clear hr1 hl1 hR ho; simp only [primV])
    | (go_at_call 146; refine (rd_span.2 D rb w1 nn1 bs1 bad1 n HR1.out ?_ ?_ ?_).mono ?_; (exact Nat.le_trans HL1.out HL.out); omega; omega; intro e2 w2 hu2; obtain ⟨v, nnv, s, nn2, bs2, bad2, rfl, ho2, hr2, hl2, hs2, hS⟩ := SpanP.uni hu2; clear hu2; have hcv : (convert 22 9 v).run Tryd.prog w2 = .ok (.string ⟨s.toArray⟩) w2 := conv_str (P := Tryd.prog) hs2 Tryd.underlying22 Tryd.underlying5 Tryd.underlying9; have HO2 := Lib.hid ho2; have HR2 := Lib.hid hr2; have HL2 := Lib.hid hl2; have HS2 := Lib.hid hs2; have HSS := Lib.hid hS; clear ho2 hr2 hl2 hs2 hS))
  all_goals (first | (go_ret; exact RdP.strNull HO.out HC.out (by omega) HL1.out HR1.out) | (go_ret; exact RdP.strN (HO.out.trans HO2.out) HC.out (by omega) HSS.out HL1.out HR2.out))

set_option maxRecDepth 100000 in
theorem rd_cnstring : RdC Tryd.prog 121 (.str true true) := by
  refine rdC (plain_f' Tryd.func121 rfl rfl) fun D rb w nn bs bad h hl => ?_
  have cI := Lib.hid (rd_uvarint.2 D rb w nn bs bad h hl)
  have HL := Lib.hid hl
  clear h hl
  go_enter Tryd.func121, Tryd.ntmps121
  go_wp2_with (first
    | (go_at_call 144; refine cI.out.mono ?_; intro e1 w1 hu; obtain ⟨x, nn1, bs1, bad1, rfl, hx, ho, hr1, hl1, hR⟩ := UvrP.uni (p := .i16) hu; clear hu; have HR1 := Lib.hid hr1; have HL1 := Lib.hid hl1; have HC := Lib.hid hR; have HO := Lib.hid ho; clear hr1 hl1 hR ho)
    | (go_at_call 146; refine (rd_span.2 D rb w1 nn1 bs1 bad1 ((x : Int) - 1) HR1.out ?_ ?_ ?_).mono ?_; (exact Nat.le_trans HL1.out HL.out); omega; omega; intro e2 w2 hu2; obtain ⟨v, nnv, s, nn2, bs2, bad2, rfl, ho2, hr2, hl2, hs2, hS⟩ := SpanP.uni hu2; clear hu2; have hcv : (convert 22 9 v).run Tryd.prog w2 = .ok (.string ⟨s.toArray⟩) w2 := conv_str (P := Tryd.prog) hs2 Tryd.underlying22 Tryd.underlying5 Tryd.underlying9; have HO2 := Lib.hid ho2; have HR2 := Lib.hid hr2; have HL2 := Lib.hid hl2; have HS2 := Lib.hid hs2; have HSS := Lib.hid hS; clear ho2 hr2 hl2 hs2 hS))
  all_goals (first | (go_ret; exact RdP.strNull HO.out HC.out (by omega) HL1.out HR1.out) | (go_ret; exact RdP.strN (HO.out.trans HO2.out) HC.out (by omega) HSS.out HL1.out HR2.out))

set_option maxRecDepth 100000 in
theorem rd_bytes : RdC Tryd.prog 142 (.byt false false) := by
  refine rdC (plain_f' Tryd.func142 rfl rfl) fun D rb w nn bs bad h hl => ?_
  have cI := Lib.hid (rd_int32.2 D rb w nn bs bad h hl)
  have HL := Lib.hid hl
  clear h hl
  go_enter Tryd.func142, Tryd.ntmps142
  go_wp2_with (first
    | (go_at_call 102; refine cI.out.mono ?_; intro e1 w1 hu; obtain ⟨n, nn1, bs1, bad1, rfl, h0, h1, ho, hr1, hl1, hR⟩ := NumQ.uni (.inr rfl) hu; clear hu; have HR1 := Lib.hid hr1; have HL1 := Lib.hid hl1; have HC := Lib.hid hR; have HO := Lib.hid ho; clear hr1 hl1 hR ho; simp only [primV])
    | (go_at_call 146; refine (rd_span.2 D rb w1 nn1 bs1 bad1 n HR1.out ?_ ?_ ?_).mono ?_; (exact Nat.le_trans HL1.out HL.out); omega; omega; intro e2 w2 hu2; obtain ⟨v, nnv, s, nn2, bs2, bad2, rfl, ho2, hr2, hl2, hs2, hS⟩ := SpanP.uni hu2; clear hu2; have HO2 := Lib.hid ho2; have HR2 := Lib.hid hr2; have HL2 := Lib.hid hl2; have HS2 := Lib.hid hs2; have HSS := Lib.hid hS; clear ho2 hr2 hl2 hs2 hS))
  all_goals (rename_i hq; first | (go_ret; exact RdP.bytE' HO.out HC.out (eq_of_beq hq) HL1.out HR1.out _ (by obtain ⟨_, _, _, _, h, _⟩ := HR1.out; have := HR1.out.lt; omega)) | (go_ret; exact RdP.bytS (HO.out.trans HO2.out) HC.out (ne_of_beq_false hq) HSS.out HL1.out HR2.out HS2.out))

set_option maxRecDepth 100000 in
theorem rd_cbytes : RdC Tryd.prog 141 (.byt true false) := by
  refine rdC (plain_f' Tryd.func141 rfl rfl) fun D rb w nn bs bad h hl => ?_
  have cI := Lib.hid (rd_uvarint.2 D rb w nn bs bad h hl)
  have HL := Lib.hid hl
  clear h hl
  go_enter Tryd.func141, Tryd.ntmps141
  go_wp2_with (first
    | (go_at_call 144; refine cI.out.mono ?_; intro e1 w1 hu; obtain ⟨x, nn1, bs1, bad1, rfl, hx, ho, hr1, hl1, hR⟩ := UvrP.uni (p := .i32) hu; clear hu; have HR1 := Lib.hid hr1; have HL1 := Lib.hid hl1; have HC := Lib.hid hR; have HO := Lib.hid ho; clear hr1 hl1 hR ho)
    | (go_at_call 146; refine (rd_span.2 D rb w1 nn1 bs1 bad1 ((x : Int) - 1) HR1.out ?_ ?_ ?_).mono ?_; (exact Nat.le_trans HL1.out HL.out); omega; omega; intro e2 w2 hu2; obtain ⟨v, nnv, s, nn2, bs2, bad2, rfl, ho2, hr2, hl2, hs2, hS⟩ := SpanP.uni hu2; clear hu2; have HO2 := Lib.hid ho2; have HR2 := Lib.hid hr2; have HL2 := Lib.hid hl2; have HS2 := Lib.hid hs2; have HSS := Lib.hid hS; clear ho2 hr2 hl2 hs2 hS))
  all_goals (rename_i hq; first | (go_ret; exact RdP.bytE' HO.out HC.out (eq_of_beq hq) HL1.out HR1.out _ (by obtain ⟨_, _, _, _, h, _⟩ := HR1.out; have := HR1.out.lt; omega)) | (go_ret; exact RdP.bytS (HO.out.trans HO2.out) HC.out (ne_of_beq_false hq) HSS.out HL1.out HR2.out HS2.out))

end Go.Proofs.YtoohbljhpfamlaaDoor.Kf
