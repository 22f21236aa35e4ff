/- The functions that write octets. -/
import Derived.Test.YthlfepgcjomhpaaKbL
import Derived.Test.YthlfepgcjomhpaaPD
namespace Go.Proofs.Ythlfepgcjomhpaa.Kf
set_option linter.unusedVariables false
set_option linter.unusedSimpArgs false
open Go Go.RowKit

theorem cnt_len4 (c : Bool) (n : Nat) : (cntEnc c 4 (some n)).length ≤ 10 := by
  cases c
  · simp [cntEnc, beEnc_length]
  · simp only [cntEnc]; exact uvEncF_len 10 (n + 1)

end Go.Proofs.Ythlfepgcjomhpaa.Kf
