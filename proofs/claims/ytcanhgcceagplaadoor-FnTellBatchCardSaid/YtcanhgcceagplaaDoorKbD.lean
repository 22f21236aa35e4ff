/- The reader's functions that read texts, octets, lengths. -/
import Derived.Test.YtcanhgcceagplaaDoorKbB
import Derived.Test.YtcanhgcceagplaaDoorKbC
import Derived.Test.YtcanhgcceagplaaDoorKbU
import Derived.Test.YtcanhgcceagplaaDoorKbE
namespace Go.Proofs.YtcanhgcceagplaaDoor.Kf
set_option linter.unusedVariables false
set_option linter.unusedSimpArgs false
open Go Go.RowKit

end Go.Proofs.YtcanhgcceagplaaDoor.Kf
