/- The numbers of this program that a message's writing names. -/
import Derived.Test.YtajhickklhjemaaDoorMsgA
import Derived.Test.YtajhickklhjemaaDoorKbM
import Derived.Test.YtajhickklhjemaaDoorKbL
namespace Go.Proofs.YtajhickklhjemaaDoor.Kf
set_option linter.unusedVariables false
set_option linter.unusedSimpArgs false
open Go Go.RowKit

def hn : Hn := { sl := 22, u8 := 5, int := 3, bool := 4, i16 := 29, u32 := 61, tg := 43 }
theorem sz_u16 : (Tryd.prog.info? 29).map (·.size) = some 1 := by kernel_rfl
theorem sz_str : (Tryd.prog.info? 9).map (·.size) = some 1 := by kernel_rfl
theorem one_i16 : One Tryd.prog 29 := one_of Tryd.underlying29 rfl sz_u16
theorem und_int : Tryd.prog.underlying hn.int = some (.int .i64) := Tryd.underlying3
theorem und_u32 : Tryd.prog.underlying hn.u32 = some (.int .u32) := Tryd.underlying61
end Go.Proofs.YtajhickklhjemaaDoor.Kf
