/- The functions that write octets. -/
import Derived.Test.YtpefipjgcpchaaaGreatDoorRKbL
import Derived.Test.YtpefipjgcpchaaaGreatDoorRPD
namespace Go.Proofs.YtpefipjgcpchaaaGreatDoorR.Kf
set_option linter.unusedVariables false
set_option linter.unusedSimpArgs false
open Go Go.RowKit

end Go.Proofs.YtpefipjgcpchaaaGreatDoorR.Kf
