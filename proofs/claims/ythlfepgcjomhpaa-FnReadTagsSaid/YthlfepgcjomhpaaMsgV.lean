/- The numbers of this program that a message's writing names. -/
import Derived.Test.YthlfepgcjomhpaaMsgA
import Derived.Test.YthlfepgcjomhpaaKbM
import Derived.Test.YthlfepgcjomhpaaKbL
namespace Go.Proofs.Ythlfepgcjomhpaa.Kf
set_option linter.unusedVariables false
set_option linter.unusedSimpArgs false
open Go Go.RowKit

def hn : Hn := { sl := 23, u8 := 5, int := 3, bool := 4, i16 := 68, u32 := 51, tg := 63 }
theorem sz_u16 : (Try.prog.info? 68).map (·.size) = some 1 := by kernel_rfl
theorem sz_str : (Try.prog.info? 9).map (·.size) = some 1 := by kernel_rfl
theorem one_i16 : One Try.prog 68 := one_of Try.underlying68 rfl sz_u16
theorem und_int : Try.prog.underlying hn.int = some (.int .i64) := Try.underlying3
theorem und_u32 : Try.prog.underlying hn.u32 = some (.int .u32) := Try.underlying51
end Go.Proofs.Ythlfepgcjomhpaa.Kf
