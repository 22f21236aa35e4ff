/- The numbers of this program that a message's writing names. -/
import Derived.Test.YtidhhlncmegjaaaDoorMsgA
import Derived.Test.YtidhhlncmegjaaaDoorKbM
import Derived.Test.YtidhhlncmegjaaaDoorKbL
namespace Go.Proofs.YtidhhlncmegjaaaDoor.Kf
set_option linter.unusedVariables false
set_option linter.unusedSimpArgs false
open Go Go.RowKit

def hn : Hn := { sl := 22, u8 := 5, int := 3, bool := 4, i16 := 48, u32 := 78, tg := 97 }
theorem sz_u16 : (Tryd.prog.info? 48).map (·.size) = some 1 := by kernel_rfl
theorem sz_str : (Tryd.prog.info? 9).map (·.size) = some 1 := by kernel_rfl
theorem one_i16 : One Tryd.prog 48 := one_of Tryd.underlying48 rfl sz_u16
theorem und_int : Tryd.prog.underlying hn.int = some (.int .i64) := Tryd.underlying3
theorem und_u32 : Tryd.prog.underlying hn.u32 = some (.int .u32) := Tryd.underlying78
end Go.Proofs.YtidhhlncmegjaaaDoor.Kf
