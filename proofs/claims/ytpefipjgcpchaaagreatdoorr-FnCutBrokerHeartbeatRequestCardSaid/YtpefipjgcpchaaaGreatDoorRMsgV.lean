/- The numbers of this program that a message's writing names. -/
import Derived.Test.YtpefipjgcpchaaaGreatDoorRMsgA
import Derived.Test.YtpefipjgcpchaaaGreatDoorRKbM
import Derived.Test.YtpefipjgcpchaaaGreatDoorRKbL
namespace Go.Proofs.YtpefipjgcpchaaaGreatDoorR.Kf
set_option linter.unusedVariables false
set_option linter.unusedSimpArgs false
open Go Go.RowKit

def hn : Hn := { sl := 22, u8 := 5, int := 3, bool := 4, i16 := 42, u32 := 57, tg := 64 }
theorem sz_u16 : (Tryz.prog.info? 42).map (·.size) = some 1 := by kernel_rfl
theorem one_i16 : One Tryz.prog 42 := one_of Tryz.underlying42 rfl sz_u16
theorem und_int : Tryz.prog.underlying hn.int = some (.int .i64) := Tryz.underlying3
theorem und_u32 : Tryz.prog.underlying hn.u32 = some (.int .u32) := Tryz.underlying57
end Go.Proofs.YtpefipjgcpchaaaGreatDoorR.Kf
