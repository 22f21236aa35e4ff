/- The numbers of this program; the reader's type; what the errors' variable holds. -/
import Derived.Test.YtpefipjgcpchaaaGreatDoorRMsgV
import Derived.Test.YtpefipjgcpchaaaGreatDoorRKbN
namespace Go.Proofs.YtpefipjgcpchaaaGreatDoorR.Kf
set_option linter.unusedVariables false
set_option linter.unusedSimpArgs false
open Go Go.RowKit

def gn : Gn := { rt := 110, rs := 7, rp := 125, i16 := 42, i32 := 21, bool := 4, ok := 72, co := 73 }
theorem und_i32 : Tryz.prog.underlying gn.i32 = some (.int .i32) := Tryz.underlying21
theorem rdrT : RdrT Tryz.prog gn.rt := ⟨fun A n c w => by kernel_rfl, fun o a w h => by
    obtain ⟨d, op, t, p, af, g⟩ := o
    simp only at h
    subst h
    kernel_rfl, info_of (by kernel_rfl)⟩
/-- Nothing below the block behind the variables is written: the errors' variable stays. -/
theorem errI_keep {L : Nat} (hL : 1 < L) : ∀ w w', ErrI w ∧ 1 < w.heap.size → Only (fun k => L ≤ k) w w' → ErrI w' ∧ 1 < w'.heap.size := by
  rintro w w' ⟨⟨t, u, h⟩, hs⟩ ho
  refine ⟨⟨t, u, (World.cell?_of_block (w := w) (ho.block _ hs (by show ¬ L ≤ 1; omega))).trans h⟩, Nat.lt_of_lt_of_le hs ho.size⟩
def EI (w : World) : Prop := ErrI w ∧ 1 < w.heap.size
theorem rd_completeE : CompC Tryz.prog gn.co EI := ⟨rd_complete.1, fun D rb w nn bs bad h hr => rd_complete.2 D rb w nn bs bad h.1 hr⟩
end Go.Proofs.YtpefipjgcpchaaaGreatDoorR.Kf
