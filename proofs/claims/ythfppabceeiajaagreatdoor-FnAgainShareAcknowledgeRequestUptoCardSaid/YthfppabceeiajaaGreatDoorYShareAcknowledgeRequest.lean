/- The reference's own fields of ShareAcknowledgeRequest. -/
import Derived.Test.YthfppabceeiajaaGreatDoorPS
import Derived.Test.YthfppabceeiajaaGreatDoorLawA
import Derived.Handy
namespace Go.Proofs.YthfppabceeiajaaGreatDoor.Kf.YShareAcknowledgeRequest
set_option linter.unusedVariables false
set_option linter.unusedSimpArgs false
open Go Go.RowKit

def fs121 : List Fld := [.mk 4 0 (-1) (-1) (-1) 0 0 [], .mk 4 0 (-1) (-1) (-1) 0 0 [], .mk 11 0 (-1) (-1) (-1) 0 1 []]
set_option maxRecDepth 100000 in
set_option maxHeartbeats 1000000 in
theorem sp121 (w : World) : Calls Tryz.prog 121 #[] w (SubP fs121 w) := by
  go_enter Tryz.func121, Tryz.ntmps121
  go_wp2_with fail
  go_ret
  exact ⟨_, _, _, rfl, flds_newN (Only.refl _ _) (fun W B hB hW => (.leaf (.leaf (.leaf .nil)))), (Only.refl _ _).alloc _⟩

def fs82 : List Fld := [.mk 3 0 (-1) (-1) (-1) 0 0 [], .mk 11 0 (-1) (-1) (-1) 0 10 fs121]
set_option maxRecDepth 100000 in
set_option maxHeartbeats 1000000 in
theorem sp82 (w : World) : Calls Tryz.prog 82 #[] w (SubP fs82 w) := by
  go_enter Tryz.func82, Tryz.ntmps82
  go_wp2_with (first | (go_at_call 121; refine (sp121 _).mono ?_; rintro e1 w1 ⟨A1, n1, c1, rfl, hF, hO⟩; have HF1 := Lib.hid hF; have HO1 := Lib.hid hO; clear hF hO))
  go_ret
  exact ⟨_, _, _, rfl, flds_newN HO1.out (fun W B hB hW => (.leaf (.node (HF1.out.use (Only.refl _ _) hB hW) .nil))), HO1.out.alloc _⟩

def fs46 : List Fld := [.mk 7 0 (-1) (-1) (-1) 0 0 [], .mk 11 0 (-1) (-1) (-1) 0 10 fs82]
set_option maxRecDepth 100000 in
set_option maxHeartbeats 1000000 in
theorem sp46 (w : World) : Calls Tryz.prog 46 #[] w (SubP fs46 w) := by
  go_enter Tryz.func46, Tryz.ntmps46
  go_wp2_with (first | (go_at_call 82; refine (sp82 _).mono ?_; rintro e1 w1 ⟨A1, n1, c1, rfl, hF, hO⟩; have HF1 := Lib.hid hF; have HO1 := Lib.hid hO; clear hF hO))
  go_ret
  exact ⟨_, _, _, rfl, flds_newN HO1.out (fun W B hB hW => (.leaf (.node (HF1.out.use (Only.refl _ _) hB hW) .nil))), HO1.out.alloc _⟩

def fs21 : List Fld := [.mk 8 0 (-1) 0 (-1) 0 0 [], .mk 8 0 (-1) 0 (-1) 0 0 [], .mk 3 0 (-1) (-1) (-1) 0 0 [], .mk 0 2 (-1) (-1) (-1) 0 0 [], .mk 11 0 (-1) (-1) (-1) 0 10 fs46]
set_option maxRecDepth 100000 in
set_option maxHeartbeats 1000000 in
theorem sp21 (w : World) : Calls Tryz.prog 21 #[] w (SpecP fs21 0 w) := by
  go_enter Tryz.func21, Tryz.ntmps21
  go_wp2_with (first | (go_at_call 46; refine (sp46 _).mono ?_; rintro e1 w1 ⟨A1, n1, c1, rfl, hF, hO⟩; have HF1 := Lib.hid hF; have HO1 := Lib.hid hO; clear hF hO; have hO := HO1.out; have cc0 : w1.cell? ⟨w.heap.size, 0, none⟩ = some (.slice none 0 0) := box0 hO 0 rfl; have cc1 : w1.cell? ⟨w.heap.size, 1, none⟩ = some (.int .i64 0) := box0 hO 1 rfl; have ff0 := box0f hO 0; have ff1 := box0f hO 1; have hlt : w.heap.size < w1.heap.size := Nat.lt_of_lt_of_le (by simp) hO.size; clear hO))
  generalize hW : World.alloc (World.setCell (World.setCell w1 _ _) _ _) _ = W'
  obtain ⟨e0, hb, hsz, hO, hk⟩ := made HO1.out hW
  clear hW cc0 cc1 ff0 ff1
  refine bodyPost_ret (results_cell_row Tryz.results21 _ _ w.heap.size _ _ _ _ rfl e0 Tryz.underlying33 rfl (by kernel_rfl)) rfl ?_
  exact ⟨_, _, _, rfl, flds_new hb (by omega) (.leaf (.leaf (.leaf (.leaf (.node (HF1.out _ _ (by omega) (fun k h1 h2 => hk k (by have := h1; simp at this; omega) h2)) .nil))))), hO⟩
/-- The message's fields, its first flexible version. -/
def fs : List Fld := fs21
def fx : Int := 0
theorem spec (w : World) : Calls Tryz.prog 21 #[] w (SpecP fs fx w) := sp21 w

end Go.Proofs.YthfppabceeiajaaGreatDoor.Kf.YShareAcknowledgeRequest
