/- The laws' own small functions: what a tree's size tells (either answer will do); a version; and what a list of tags is in memory. -/
import Derived.Test.YthlfepgcjomhpaaMsgV
import Derived.Test.YthlfepgcjomhpaaLawA
import Derived.Test.YthlfepgcjomhpaaPS
import Derived.Test.YthlfepgcjomhpaaSpS
import Derived.Handy
namespace Go.Proofs.Ythlfepgcjomhpaa.Kf
set_option linter.unusedVariables false
set_option linter.unusedSimpArgs false
open Go Go.RowKit

/-- Some answer. -/
def BoolP (w : World) (e : Ending) (w' : World) : Prop := ∃ b, e = .returned (.bool b) ∧ Only (fun _ => False) w w'
set_option maxRecDepth 100000 in
/-- A version: the number's rest. -/
theorem version_c (w : World) (n mx : Int) (hn0 : 0 ≤ n) (hn1 : n < 256) (h0 : 0 ≤ mx) (h1 : mx ≤ 32767) : Calls Try.prog 18 #[.int .u8 n, .int .i64 mx] w fun e w' => e = .returned (.int .i64 (n % (mx + 1))) ∧ w' = w := by
  have e1 : IntKind.i64.wrap n = n := by unfold IntKind.wrap; simp [IntKind.signed, IntKind.bits]; omega
  have e2 : wrap64 (mx + 1) = mx + 1 := by unfold wrap64; omega
  have e3 : ¬ (mx + 1 = 0) := by omega
  have e4 : Int.tmod n (mx + 1) = n % (mx + 1) := Int.tmod_eq_emod_of_nonneg hn0
  have e5 : wrap64 (n % (mx + 1)) = n % (mx + 1) := by
    have := Int.emod_nonneg n e3
    have := Int.emod_lt_of_pos n (show (0 : Int) < mx + 1 by omega)
    unfold wrap64; omega
  go_enter Try.func18, Try.ntmps18
  go_wp2_with fail
  go_ret
  exact ⟨rfl, rfl⟩
end Go.Proofs.Ythlfepgcjomhpaa.Kf
