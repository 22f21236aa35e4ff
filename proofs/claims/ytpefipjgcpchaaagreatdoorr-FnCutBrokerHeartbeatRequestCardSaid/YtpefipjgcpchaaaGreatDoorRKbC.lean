/- The reader's functions that read octets. -/
import Derived.Test.YtpefipjgcpchaaaGreatDoorRKbA
import Derived.Test.YtpefipjgcpchaaaGreatDoorRProg
import Derived.Lib.Hide
namespace Go.Proofs.YtpefipjgcpchaaaGreatDoorR.Kf
set_option linter.unusedVariables false
set_option linter.unusedSimpArgs false
open Go Go.RowKit

theorem plain_f' {f : Nat} {fn : Func} (h : Tryz.prog.funcs[f]? = some fn) (hb : fn.body.isNone = false) (hn : (fn.name == "runtime.NumGoroutine") = false) : Plain Tryz.prog f := ⟨fn, h, hb, hn⟩

theorem rd_span : SpanC Tryz.prog 69 := by
  refine ⟨plain_f' Tryz.func69 rfl rfl, fun D rb w nn bs bad n h hl h0 h1 => ?_⟩
  obtain ⟨sv, e, hb, hs, hD, hbad⟩ := h
  have hB : RB rb w sv bad e := hb
  obtain ⟨c0, c1, f0, f1⟩ := hB.cells
  by_cases hneg : n < 0
  · obtain ⟨A, c, rfl, hc, hnil⟩ := hs.len
    have HB := Lib.hid hB
    have HN := Lib.hid hneg
    have t1 : decide ((bs.length : Int) < n) = false := by simpa using (by omega : ¬ (bs.length : Int) < n)
    have t2 : decide (n < 0) = true := by simpa using hneg
    clear hbad hnil hB hb hs hneg
    go_enter Tryz.func69, Tryz.ntmps69
    go_wp2
    go_ret
    exact SpanP.failed hD HB.out (.inl HN.out)
  · obtain ⟨k, rfl⟩ : ∃ k : Nat, n = k := ⟨n.toNat, by omega⟩
    by_cases hlt : bs.length < k
    · obtain ⟨A, c, rfl, hc, hnil⟩ := hs.len
      have HB := Lib.hid hB
      have HN := Lib.hid hlt
      have t1 : decide (bs.length < k) = true := by simpa using hlt
      clear hbad hnil hB hb hs hneg hlt
      go_enter Tryz.func69, Tryz.ntmps69
      go_wp2
      go_ret
      exact SpanP.failed hD HB.out (.inr (by have := HN.out; omega))
    · have hk : k ≤ bs.length := by omega
      have t1 : decide (bs.length < k) = false := by simpa using hlt
      have HB := Lib.hid hB
      have HS := Lib.hid hs
      rcases hs with ⟨rfl, rfl, rfl⟩ | ⟨rfl, o, c, rfl, hc, hcell⟩
      · obtain rfl : k = 0 := by simpa using hk
        clear hbad hB hb hlt hneg h0 h1 hk hl t1
        go_enter Tryz.func69, Tryz.ntmps69
        go_wp2
        go_ret
        exact SpanP.none hD HB.out
      · obtain rfl : bad = false := by cases bad; rfl; exact absurd (hbad rfl) (by decide)
        have hkc : k ≤ c := by omega
        have HC := Lib.hid hcell
        have HL := Lib.hid hc
        by_cases hcap : c = k
        · subst hcap
          clear hbad hB hb hlt hneg h0 h1 hl hcell hc
          go_enter Tryz.func69, Tryz.ntmps69
          go_wp2
          go_ret
          exact SpanP.ok hD HB.out HL.out hk HC.out (by first | exact .inl rfl | exact .inr ⟨rfl, rfl⟩) (by omega)
        · clear hbad hB hb hlt hneg h0 h1 hl hcell hc
          go_enter Tryz.func69, Tryz.ntmps69
          go_wp2
          go_ret
          exact SpanP.ok hD HB.out HL.out hk HC.out (by first | exact .inl rfl | exact .inr ⟨rfl, rfl⟩) (by omega)
end Go.Proofs.YtpefipjgcpchaaaGreatDoorR.Kf
