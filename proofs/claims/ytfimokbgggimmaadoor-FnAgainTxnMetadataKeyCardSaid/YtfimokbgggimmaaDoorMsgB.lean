/- The numbers of this program; the reader's type; what the errors' variable holds. -/
import Derived.Test.YtfimokbgggimmaaDoorMsgA
import Derived.Test.YtfimokbgggimmaaDoorKbN
import Derived.Test.YtfimokbgggimmaaDoorKbM
import Derived.Test.YtfimokbgggimmaaDoorKbL
namespace Go.Proofs.YtfimokbgggimmaaDoor.Kf
set_option linter.unusedVariables false
set_option linter.unusedSimpArgs false
open Go Go.RowKit

def gn : Gn := { rt := 107, rp := 123, i16 := 39, i32 := 21, bool := 4, ok := 78, co := 65 }
def hn : Hn := { sl := 22, u8 := 5, int := 3, bool := 4, i16 := 39, u32 := 76, tg := 0 }
theorem sz_u16 : (Tryd.prog.info? 39).map (·.size) = some 1 := by kernel_rfl
theorem sz_str : (Tryd.prog.info? 9).map (·.size) = some 1 := by kernel_rfl
theorem one_i16 : One Tryd.prog 39 := one_of Tryd.underlying39 rfl sz_u16
theorem und_i32 : Tryd.prog.underlying gn.i32 = some (.int .i32) := Tryd.underlying21
theorem und_int : Tryd.prog.underlying hn.int = some (.int .i64) := Tryd.underlying3
theorem und_u32 : Tryd.prog.underlying hn.u32 = some (.int .u32) := Tryd.underlying76
theorem rdrT : RdrT Tryd.prog gn.rt := ⟨fun A n c w => by kernel_rfl, fun o a w h => by
    obtain ⟨d, op, t, p, af, g⟩ := o
    simp only at h
    subst h
    kernel_rfl, info_of (by kernel_rfl)⟩
/-- Nothing below the block behind the variables is written: the errors' variable stays. -/
theorem errI_keep {L : Nat} (hL : 1 < L) : ∀ w w', ErrI w ∧ 1 < w.heap.size → Only (fun k => L ≤ k) w w' → ErrI w' ∧ 1 < w'.heap.size := by
  rintro w w' ⟨⟨t, u, h⟩, hs⟩ ho
  refine ⟨⟨t, u, (World.cell?_of_block (w := w) (ho.block _ hs (by show ¬ L ≤ 1; omega))).trans h⟩, Nat.lt_of_lt_of_le hs ho.size⟩
def EI (w : World) : Prop := ErrI w ∧ 1 < w.heap.size
theorem rd_completeE : CompC Tryd.prog gn.co EI := ⟨rd_complete.1, fun D rb w nn bs bad h hr => rd_complete.2 D rb w nn bs bad h.1 hr⟩
end Go.Proofs.YtfimokbgggimmaaDoor.Kf
