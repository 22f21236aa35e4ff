/- Writing a number in groups of seven bits. -/
import Derived.Test.YtfimokbgggimmaaDoorKbH
import Derived.Test.YtfimokbgggimmaaDoorKbU
import Derived.Test.YtfimokbgggimmaaDoorShelf
import Derived.Lib.ItoaNum
import Derived.Lib.BitFns
namespace Go.Proofs.YtfimokbgggimmaaDoor.Kf
set_option linter.unusedVariables false
set_option linter.unusedSimpArgs false
open Go Go.RowKit
end Go.Proofs.YtfimokbgggimmaaDoor.Kf
