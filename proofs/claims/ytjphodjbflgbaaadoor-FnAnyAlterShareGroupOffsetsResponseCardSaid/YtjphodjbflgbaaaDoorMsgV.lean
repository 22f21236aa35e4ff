/- The numbers of this program that a message's writing names. -/
import Derived.Test.YtjphodjbflgbaaaDoorMsgA
import Derived.Test.YtjphodjbflgbaaaDoorKbM
import Derived.Test.YtjphodjbflgbaaaDoorKbL
namespace Go.Proofs.YtjphodjbflgbaaaDoor.Kf
set_option linter.unusedVariables false
set_option linter.unusedSimpArgs false
open Go Go.RowKit

def hn : Hn := { sl := 22, u8 := 5, int := 3, bool := 4, i16 := 41, u32 := 59, tg := 66 }
theorem sz_u16 : (Tryd.prog.info? 41).map (·.size) = some 1 := by kernel_rfl
theorem sz_str : (Tryd.prog.info? 9).map (·.size) = some 1 := by kernel_rfl
theorem one_i16 : One Tryd.prog 41 := one_of Tryd.underlying41 rfl sz_u16
theorem und_int : Tryd.prog.underlying hn.int = some (.int .i64) := Tryd.underlying3
theorem und_u32 : Tryd.prog.underlying hn.u32 = some (.int .u32) := Tryd.underlying59
end Go.Proofs.YtjphodjbflgbaaaDoor.Kf
