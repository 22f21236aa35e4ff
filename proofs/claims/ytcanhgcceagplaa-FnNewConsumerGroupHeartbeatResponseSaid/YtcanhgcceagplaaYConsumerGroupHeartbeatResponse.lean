/- The reference's own fields of ConsumerGroupHeartbeatResponse. -/
import Derived.Test.YtcanhgcceagplaaPS
import Derived.Test.YtcanhgcceagplaaLawA
import Derived.Handy
namespace Go.Proofs.Ytcanhgcceagplaa.Kf.YConsumerGroupHeartbeatResponse
set_option linter.unusedVariables false
set_option linter.unusedSimpArgs false
open Go Go.RowKit

def fs43 : List Fld := [.mk 7 0 (-1) (-1) (-1) 0 0 [], .mk 11 0 (-1) (-1) (-1) 0 3 []]
set_option maxRecDepth 100000 in
set_option maxHeartbeats 1000000 in
theorem sp43 (w : World) : Calls Try.prog 43 #[] w (SubP fs43 w) := by
  go_enter Try.func43, Try.ntmps43
  go_wp2_with fail
  go_ret
  exact ⟨_, _, _, rfl, flds_newN (Only.refl _ _) (fun W B hB hW => (.leaf (.leaf .nil))), (Only.refl _ _).alloc _⟩

def fs27 : List Fld := [.mk 11 0 (-1) (-1) (-1) 0 10 fs43]
set_option maxRecDepth 100000 in
set_option maxHeartbeats 1000000 in
theorem sp27 (w : World) : Calls Try.prog 27 #[] w (SubP fs27 w) := by
  go_enter Try.func27, Try.ntmps27
  go_wp2_with (first | (go_at_call 43; refine (sp43 _).mono ?_; rintro e1 w1 ⟨A1, n1, c1, rfl, hF, hO⟩; have HF1 := Lib.hid hF; have HO1 := Lib.hid hO; clear hF hO))
  go_ret
  exact ⟨_, _, _, rfl, flds_newN HO1.out (fun W B hB hW => (.node (HF1.out.use (Only.refl _ _) hB hW) .nil)), HO1.out.alloc _⟩

def fs7 : List Fld := [.mk 3 0 (-1) (-1) (-1) 0 0 [], .mk 2 0 (-1) (-1) (-1) 0 0 [], .mk 8 0 (-1) 0 (-1) 0 0 [], .mk 8 0 (-1) 0 (-1) 0 0 [], .mk 3 0 (-1) (-1) (-1) 0 0 [], .mk 3 0 (-1) (-1) (-1) 0 0 [], .mk 10 0 (-1) 0 (-1) 0 0 fs27]
set_option maxRecDepth 100000 in
set_option maxHeartbeats 1000000 in
theorem sp7 (w : World) : Calls Try.prog 7 #[] w (SpecP fs7 0 w) := by
  go_enter Try.func7, Try.ntmps7
  go_wp2_with (first | (go_at_call 27; refine (sp27 _).mono ?_; rintro e1 w1 ⟨A1, n1, c1, rfl, hF, hO⟩; have HF1 := Lib.hid hF; have HO1 := Lib.hid hO; clear hF hO; have hO := HO1.out; have cc0 : w1.cell? ⟨w.heap.size, 0, none⟩ = some (.slice none 0 0) := box0 hO 0 rfl; have cc1 : w1.cell? ⟨w.heap.size, 1, none⟩ = some (.int .i64 0) := box0 hO 1 rfl; have ff0 := box0f hO 0; have ff1 := box0f hO 1; have hlt : w.heap.size < w1.heap.size := Nat.lt_of_lt_of_le (by simp) hO.size; clear hO))
  generalize hW : World.alloc (World.setCell (World.setCell w1 _ _) _ _) _ = W'
  obtain ⟨e0, hb, hsz, hO, hk⟩ := made HO1.out hW
  clear hW cc0 cc1 ff0 ff1
  refine bodyPost_ret (results_cell_row Try.results7 _ _ w.heap.size _ _ _ _ rfl e0 Try.underlying25 rfl (by kernel_rfl)) rfl ?_
  exact ⟨_, _, _, rfl, flds_new hb (by omega) (.leaf (.leaf (.leaf (.leaf (.leaf (.leaf (.node (HF1.out _ _ (by omega) (fun k h1 h2 => hk k (by have := h1; simp at this; omega) h2)) .nil))))))), hO⟩
/-- The message's fields, its first flexible version. -/
def fs : List Fld := fs7
def fx : Int := 0
theorem spec (w : World) : Calls Try.prog 7 #[] w (SpecP fs fx w) := sp7 w

end Go.Proofs.Ytcanhgcceagplaa.Kf.YConsumerGroupHeartbeatResponse
