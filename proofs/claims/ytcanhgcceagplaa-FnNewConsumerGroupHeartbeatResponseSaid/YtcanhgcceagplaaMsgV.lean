/- The numbers of this program that a message's writing names. -/
import Derived.Test.YtcanhgcceagplaaMsgA
import Derived.Test.YtcanhgcceagplaaKbM
import Derived.Test.YtcanhgcceagplaaKbL
namespace Go.Proofs.Ytcanhgcceagplaa.Kf
set_option linter.unusedVariables false
set_option linter.unusedSimpArgs false
open Go Go.RowKit

def hn : Hn := { sl := 28, u8 := 5, int := 3, bool := 4, i16 := 51, u32 := 63, tg := 75 }
theorem sz_u16 : (Try.prog.info? 51).map (·.size) = some 1 := by kernel_rfl
theorem sz_str : (Try.prog.info? 9).map (·.size) = some 1 := by kernel_rfl
theorem one_i16 : One Try.prog 51 := one_of Try.underlying51 rfl sz_u16
theorem und_int : Try.prog.underlying hn.int = some (.int .i64) := Try.underlying3
theorem und_u32 : Try.prog.underlying hn.u32 = some (.int .u32) := Try.underlying63
end Go.Proofs.Ytcanhgcceagplaa.Kf
