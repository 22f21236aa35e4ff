/- The reader's functions that read texts, octets, lengths. -/
import Derived.Test.YtidhhlncmegjaaaDoorKbB
import Derived.Test.YtidhhlncmegjaaaDoorKbC
import Derived.Test.YtidhhlncmegjaaaDoorKbU
import Derived.Test.YtidhhlncmegjaaaDoorKbE
namespace Go.Proofs.YtidhhlncmegjaaaDoor.Kf
set_option linter.unusedVariables false
set_option linter.unusedSimpArgs false
open Go Go.RowKit

set_option maxRecDepth 100000 in
theorem rd_string : RdC Tryd.prog 135 (.str false false) := by
  refine rdC (plain_f' Tryd.func135 rfl rfl) fun D rb w nn bs bad h hl => ?_
  have cI := Lib.hid (rd_int16.2 D rb w nn bs bad h hl)
  have HL := Lib.hid hl
  clear h hl
  go_enter Tryd.func135, Tryd.ntmps135
  go_wp2_with (first
    | (go_at_call 130; refine cI.out.mono ?_; intro e1 w1 hu; obtain ⟨n, nn1, bs1, bad1, rfl, h0, h1, ho, hr1, hl1, hR⟩ := NumQ.uni (.inl rfl) hu; clear hu; have HR1 := Lib.hid hr1; have HL1 := Lib.hid hl1; have HC := Lib.hid hR; have HO := Lib.hid ho; clear hr1 hl1 hR ho; simp only [primV])
    | (go_at_call 167; refine (rd_span.2 D rb w1 nn1 bs1 bad1 n HR1.out ?_ ?_ ?_).mono ?_; (exact Nat.le_trans HL1.out HL.out); omega; omega; intro e2 w2 hu2; obtain ⟨v, nnv, s, nn2, bs2, bad2, rfl, ho2, hr2, hl2, hs2, hS⟩ := SpanP.uni hu2; clear hu2; have hcv : (convert 22 9 v).run Tryd.prog w2 = .ok (.string ⟨s.toArray⟩) w2 := conv_str (P := Tryd.prog) hs2 Tryd.underlying22 Tryd.underlying5 Tryd.underlying9; have HO2 := Lib.hid ho2; have HR2 := Lib.hid hr2; have HL2 := Lib.hid hl2; have HS2 := Lib.hid hs2; have HSS := Lib.hid hS; clear ho2 hr2 hl2 hs2 hS))
  go_ret
  exact RdP.str (HO.out.trans HO2.out) HC.out HSS.out HL1.out HR2.out

set_option maxRecDepth 100000 in
theorem rd_cstring : RdC Tryd.prog 162 (.str true false) := by
  refine rdC (plain_f' Tryd.func162 rfl rfl) fun D rb w nn bs bad h hl => ?_
  have cI := Lib.hid (rd_uvarint.2 D rb w nn bs bad h hl)
  have HL := Lib.hid hl
  clear h hl
  go_enter Tryd.func162, Tryd.ntmps162
  go_wp2_with (first
    | (go_at_call 169; refine cI.out.mono ?_; intro e1 w1 hu; obtain ⟨x, nn1, bs1, bad1, rfl, hx, ho, hr1, hl1, hR⟩ := UvrP.uni (p := .i16) hu; clear hu; have HR1 := Lib.hid hr1; have HL1 := Lib.hid hl1; have HC := Lib.hid hR; have HO := Lib.hid ho; clear hr1 hl1 hR ho)
    | (go_at_call 167; refine (rd_span.2 D rb w1 nn1 bs1 bad1 ((x : Int) - 1) HR1.out ?_ ?_ ?_).mono ?_; (exact Nat.le_trans HL1.out HL.out); omega; omega; intro e2 w2 hu2; obtain ⟨v, nnv, s, nn2, bs2, bad2, rfl, ho2, hr2, hl2, hs2, hS⟩ := SpanP.uni hu2; clear hu2; have hcv : (convert 22 9 v).run Tryd.prog w2 = .ok (.string ⟨s.toArray⟩) w2 := conv_str (P := Tryd.prog) hs2 Tryd.underlying22 Tryd.underlying5 Tryd.underlying9; have HO2 := Lib.hid ho2; have HR2 := Lib.hid hr2; have HL2 := Lib.hid hl2; have HS2 := Lib.hid hs2; have HSS := Lib.hid hS; clear ho2 hr2 hl2 hs2 hS))
  go_ret
  exact RdP.str (HO.out.trans HO2.out) HC.out HSS.out HL1.out HR2.out

set_option maxRecDepth 100000 in
theorem rd_nstring : RdC Tryd.prog 140 (.str false true) := by
  refine rdC (plain_f' Tryd.func140 rfl rfl) fun D rb w nn bs bad h hl => ?_
  have cI := Lib.hid (rd_int16.2 D rb w nn bs bad h hl)
  have HL := Lib.hid hl
  clear h hl
  go_enter Tryd.func140, Tryd.ntmps140
  go_wp2_with (first
    | (go_at_call 130; refine cI.out.mono ?_; intro e1 w1 hu; obtain ⟨n, nn1, bs1, bad1, rfl, h0, h1, ho, hr1, hl1, hR⟩ := NumQ.uni (.inl rfl) hu; clear hu; have HR1 := Lib.hid hr1; have HL1 := Lib.hid hl1; have HC := Lib.hid hR; have HO := Lib.hid ho; clear hr1 hl1 hR ho; simp only [primV])
    | (go_at_call 167; refine (rd_span.2 D rb w1 nn1 bs1 bad1 n HR1.out ?_ ?_ ?_).mono ?_; (exact Nat.le_trans HL1.out HL.out); omega; omega; intro e2 w2 hu2; obtain ⟨v, nnv, s, nn2, bs2, bad2, rfl, ho2, hr2, hl2, hs2, hS⟩ := SpanP.uni hu2; clear hu2; have hcv : (convert 22 9 v).run Tryd.prog w2 = .ok (.string ⟨s.toArray⟩) w2 := conv_str (P := Tryd.prog) hs2 Tryd.underlying22 Tryd.underlying5 Tryd.underlying9; have HO2 := Lib.hid ho2; have HR2 := Lib.hid hr2; have HL2 := Lib.hid hl2; have HS2 := Lib.hid hs2; have HSS := Lib.hid hS; clear ho2 hr2 hl2 hs2 hS))
  all_goals (first | (go_ret; exact RdP.strNull HO.out HC.out (by omega) HL1.out HR1.out) | (go_ret; exact RdP.strN (HO.out.trans HO2.out) HC.out (by omega) HSS.out HL1.out HR2.out))

set_option maxRecDepth 100000 in
theorem rd_cnstring : RdC Tryd.prog 159 (.str true true) := by
  refine rdC (plain_f' Tryd.func159 rfl rfl) fun D rb w nn bs bad h hl => ?_
  have cI := Lib.hid (rd_uvarint.2 D rb w nn bs bad h hl)
  have HL := Lib.hid hl
  clear h hl
  go_enter Tryd.func159, Tryd.ntmps159
  go_wp2_with (first
    | (go_at_call 169; refine cI.out.mono ?_; intro e1 w1 hu; obtain ⟨x, nn1, bs1, bad1, rfl, hx, ho, hr1, hl1, hR⟩ := UvrP.uni (p := .i16) hu; clear hu; have HR1 := Lib.hid hr1; have HL1 := Lib.hid hl1; have HC := Lib.hid hR; have HO := Lib.hid ho; clear hr1 hl1 hR ho)
    | (go_at_call 167; refine (rd_span.2 D rb w1 nn1 bs1 bad1 ((x : Int) - 1) HR1.out ?_ ?_ ?_).mono ?_; (exact Nat.le_trans HL1.out HL.out); omega; omega; intro e2 w2 hu2; obtain ⟨v, nnv, s, nn2, bs2, bad2, rfl, ho2, hr2, hl2, hs2, hS⟩ := SpanP.uni hu2; clear hu2; have hcv : (convert 22 9 v).run Tryd.prog w2 = .ok (.string ⟨s.toArray⟩) w2 := conv_str (P := Tryd.prog) hs2 Tryd.underlying22 Tryd.underlying5 Tryd.underlying9; have HO2 := Lib.hid ho2; have HR2 := Lib.hid hr2; have HL2 := Lib.hid hl2; have HS2 := Lib.hid hs2; have HSS := Lib.hid hS; clear ho2 hr2 hl2 hs2 hS))
  all_goals (first | (go_ret; exact RdP.strNull HO.out HC.out (by omega) HL1.out HR1.out) | (go_ret; exact RdP.strN (HO.out.trans HO2.out) HC.out (by omega) HSS.out HL1.out HR2.out))

set_option maxRecDepth 100000 in
theorem rd_nbytes : RdC Tryd.prog 136 (.byt false true) := by
  refine rdC (plain_f' Tryd.func136 rfl rfl) fun D rb w nn bs bad h hl => ?_
  have cI := Lib.hid (rd_int32.2 D rb w nn bs bad h hl)
  have HL := Lib.hid hl
  clear h hl
  go_enter Tryd.func136, Tryd.ntmps136
  go_wp2_with (first
    | (go_at_call 138; refine cI.out.mono ?_; intro e1 w1 hu; obtain ⟨n, nn1, bs1, bad1, rfl, h0, h1, ho, hr1, hl1, hR⟩ := NumQ.uni (.inr rfl) hu; clear hu; have HR1 := Lib.hid hr1; have HL1 := Lib.hid hl1; have HC := Lib.hid hR; have HO := Lib.hid ho; clear hr1 hl1 hR ho; simp only [primV])
    | (go_at_call 167; refine (rd_span.2 D rb w1 nn1 bs1 bad1 n HR1.out ?_ ?_ ?_).mono ?_; (exact Nat.le_trans HL1.out HL.out); omega; omega; intro e2 w2 hu2; obtain ⟨v, nnv, s, nn2, bs2, bad2, rfl, ho2, hr2, hl2, hs2, hS⟩ := SpanP.uni hu2; clear hu2; have HO2 := Lib.hid ho2; have HR2 := Lib.hid hr2; have HL2 := Lib.hid hl2; have HS2 := Lib.hid hs2; have HSS := Lib.hid hS; clear ho2 hr2 hl2 hs2 hS))
  all_goals (first | (go_ret; exact RdP.bytNull HO.out HC.out (by omega) HL1.out HR1.out) | (go_ret; exact RdP.bytN (HO.out.trans HO2.out) HC.out (by omega) HSS.out HL1.out HR2.out HS2.out))

set_option maxRecDepth 100000 in
theorem rd_cnbytes : RdC Tryd.prog 156 (.byt true true) := by
  refine rdC (plain_f' Tryd.func156 rfl rfl) fun D rb w nn bs bad h hl => ?_
  have cI := Lib.hid (rd_uvarint.2 D rb w nn bs bad h hl)
  have HL := Lib.hid hl
  clear h hl
  go_enter Tryd.func156, Tryd.ntmps156
  go_wp2_with (first
    | (go_at_call 169; refine cI.out.mono ?_; intro e1 w1 hu; obtain ⟨x, nn1, bs1, bad1, rfl, hx, ho, hr1, hl1, hR⟩ := UvrP.uni (p := .i32) hu; clear hu; have HR1 := Lib.hid hr1; have HL1 := Lib.hid hl1; have HC := Lib.hid hR; have HO := Lib.hid ho; clear hr1 hl1 hR ho)
    | (go_at_call 167; refine (rd_span.2 D rb w1 nn1 bs1 bad1 ((x : Int) - 1) HR1.out ?_ ?_ ?_).mono ?_; (exact Nat.le_trans HL1.out HL.out); omega; omega; intro e2 w2 hu2; obtain ⟨v, nnv, s, nn2, bs2, bad2, rfl, ho2, hr2, hl2, hs2, hS⟩ := SpanP.uni hu2; clear hu2; have HO2 := Lib.hid ho2; have HR2 := Lib.hid hr2; have HL2 := Lib.hid hl2; have HS2 := Lib.hid hs2; have HSS := Lib.hid hS; clear ho2 hr2 hl2 hs2 hS))
  all_goals (first | (go_ret; exact RdP.bytNull HO.out HC.out (by omega) HL1.out HR1.out) | (go_ret; exact RdP.bytN (HO.out.trans HO2.out) HC.out (by omega) HSS.out HL1.out HR2.out HS2.out))

end Go.Proofs.YtidhhlncmegjaaaDoor.Kf
