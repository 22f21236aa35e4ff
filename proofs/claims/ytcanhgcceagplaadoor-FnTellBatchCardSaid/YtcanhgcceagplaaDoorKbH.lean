/- The functions that write numbers. -/
import Derived.Test.YtcanhgcceagplaaDoorKbG
import Derived.Test.YtcanhgcceagplaaDoorPA
import Derived.Test.YtcanhgcceagplaaDoorProg
import Derived.Lib.Hide
namespace Go.Proofs.YtcanhgcceagplaaDoor.Kf
set_option linter.unusedVariables false
set_option linter.unusedSimpArgs false
open Go Go.RowKit

theorem plain_g {f : Nat} {fn : Func} (h : Tryd.prog.funcs[f]? = some fn) (hb : fn.body.isNone = false) (hn : (fn.name == "runtime.NumGoroutine") = false) : Plain Tryd.prog f := ⟨fn, h, hb, hn⟩
theorem info_u8m : (Tryd.prog.info? 5).map (fun i => (i.zero, i.size, i.bytes)) = some (some (.int .u8 0), 1, 1) := by kernel_rfl
theorem info_u8 : ∃ i, Tryd.prog.info? 5 = some i ∧ i.zero = some (.int .u8 0) ∧ i.size = 1 ∧ i.bytes = 1 := by
  have h := info_u8m
  cases e : Tryd.prog.info? 5 with
  | none => rw [e] at h; cases h
  | some i =>
    rw [e] at h
    simp only [Option.map_some, Option.some.injEq, Prod.mk.injEq] at h
    exact ⟨i, rfl, h.1, h.2.1, h.2.2⟩

end Go.Proofs.YtcanhgcceagplaaDoor.Kf
