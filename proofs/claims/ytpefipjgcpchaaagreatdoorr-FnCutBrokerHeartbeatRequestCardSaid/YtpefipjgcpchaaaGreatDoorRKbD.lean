/- The reader's functions that read texts, octets, lengths. -/
import Derived.Test.YtpefipjgcpchaaaGreatDoorRKbB
import Derived.Test.YtpefipjgcpchaaaGreatDoorRKbC
import Derived.Test.YtpefipjgcpchaaaGreatDoorRKbU
import Derived.Test.YtpefipjgcpchaaaGreatDoorRKbE
namespace Go.Proofs.YtpefipjgcpchaaaGreatDoorR.Kf
set_option linter.unusedVariables false
set_option linter.unusedSimpArgs false
open Go Go.RowKit

set_option maxRecDepth 100000 in
theorem rd_string : RdC Tryz.prog 85 (.str false false) := by
  refine rdC (plain_f' Tryz.func85 rfl rfl) fun D rb w nn bs bad h hl => ?_
  have cI := Lib.hid (rd_int16.2 D rb w nn bs bad h hl)
  have HL := Lib.hid hl
  clear h hl
  go_enter Tryz.func85, Tryz.ntmps85
  go_wp2_with (first
    | (go_at_call 80; refine cI.out.mono ?_; intro e1 w1 hu; obtain ⟨n, nn1, bs1, bad1, rfl, h0, h1, ho, hr1, hl1, hR⟩ := NumQ.uni (.inl rfl) hu; clear hu; have HR1 := Lib.hid hr1; have HL1 := Lib.hid hl1; have HC := Lib.hid hR; have HO := Lib.hid ho; clear hr1 hl1 hR ho; simp only [primV])
    | (go_at_call 69; refine (rd_span.2 D rb w1 nn1 bs1 bad1 n HR1.out ?_ ?_ ?_).mono ?_; (exact Nat.le_trans HL1.out HL.out); omega; omega; intro e2 w2 hu2; obtain ⟨v, nnv, s, nn2, bs2, bad2, rfl, ho2, hr2, hl2, hs2, hS⟩ := SpanP.uni hu2; clear hu2; have hcv : (convert 22 9 v).run Tryz.prog w2 = .ok (.string ⟨s.toArray⟩) w2 := conv_str (P := Tryz.prog) hs2 Tryz.underlying22 Tryz.underlying5 Tryz.underlying9; have HO2 := Lib.hid ho2; have HR2 := Lib.hid hr2; have HL2 := Lib.hid hl2; have HS2 := Lib.hid hs2; have HSS := Lib.hid hS; clear ho2 hr2 hl2 hs2 hS))
  go_ret
  exact RdP.str (HO.out.trans HO2.out) HC.out HSS.out HL1.out HR2.out

set_option maxRecDepth 100000 in
theorem rd_cstring : RdC Tryz.prog 84 (.str true false) := by
  refine rdC (plain_f' Tryz.func84 rfl rfl) fun D rb w nn bs bad h hl => ?_
  have cI := Lib.hid (rd_uvarint.2 D rb w nn bs bad h hl)
  have HL := Lib.hid hl
  clear h hl
  go_enter Tryz.func84, Tryz.ntmps84
  go_wp2_with (first
    | (go_at_call 67; refine cI.out.mono ?_; intro e1 w1 hu; obtain ⟨x, nn1, bs1, bad1, rfl, hx, ho, hr1, hl1, hR⟩ := UvrP.uni (p := .i16) hu; clear hu; have HR1 := Lib.hid hr1; have HL1 := Lib.hid hl1; have HC := Lib.hid hR; have HO := Lib.hid ho; clear hr1 hl1 hR ho)
    | (go_at_call 69; refine (rd_span.2 D rb w1 nn1 bs1 bad1 ((x : Int) - 1) HR1.out ?_ ?_ ?_).mono ?_; (exact Nat.le_trans HL1.out HL.out); omega; omega; intro e2 w2 hu2; obtain ⟨v, nnv, s, nn2, bs2, bad2, rfl, ho2, hr2, hl2, hs2, hS⟩ := SpanP.uni hu2; clear hu2; have hcv : (convert 22 9 v).run Tryz.prog w2 = .ok (.string ⟨s.toArray⟩) w2 := conv_str (P := Tryz.prog) hs2 Tryz.underlying22 Tryz.underlying5 Tryz.underlying9; have HO2 := Lib.hid ho2; have HR2 := Lib.hid hr2; have HL2 := Lib.hid hl2; have HS2 := Lib.hid hs2; have HSS := Lib.hid hS; clear ho2 hr2 hl2 hs2 hS))
  go_ret
  exact RdP.str (HO.out.trans HO2.out) HC.out HSS.out HL1.out HR2.out

end Go.Proofs.YtpefipjgcpchaaaGreatDoorR.Kf
