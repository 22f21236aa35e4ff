/- The reader's error. -/
import Derived.Test.YtpefipjgcpchaaaGreatDoorRKbF
namespace Go.Proofs.YtpefipjgcpchaaaGreatDoorR.Kf
set_option linter.unusedVariables false
set_option linter.unusedSimpArgs false
open Go Go.RowKit

/-- The variable of the error holds one. -/
def ErrI (w : World) : Prop := ∃ t u, w.cell? ⟨1, 0, none⟩ = some (.iface t u)
def CompP (w : World) (bad : Bool) (e : Ending) (w' : World) : Prop := ∃ v, e = .returned v ∧ IsErr bad v ∧ Only (fun _ => False) w w'
theorem rd_complete : CompC Tryz.prog 73 ErrI := by
  refine ⟨plain_f' Tryz.func73 rfl rfl, fun D rb w nn bs bad hI h => ?_⟩
  show Calls _ _ _ _ (CompP w bad)
  obtain ⟨t, u, hg⟩ := hI
  obtain ⟨sv, e, hb, hs, hD, hbad⟩ := h
  obtain ⟨c0, c1, f0, f1⟩ := RB.cells hb
  clear hb hs hbad
  cases bad
  · go_enter Tryz.func73, Tryz.ntmps73
    go_wp2
    go_ret
    exact ⟨_, rfl, rfl, Only.refl _ _⟩
  · go_enter Tryz.func73, Tryz.ntmps73
    go_wp2
    go_ret
    exact ⟨_, rfl, ⟨t, u, rfl⟩, Only.refl _ _⟩
end Go.Proofs.YtpefipjgcpchaaaGreatDoorR.Kf
