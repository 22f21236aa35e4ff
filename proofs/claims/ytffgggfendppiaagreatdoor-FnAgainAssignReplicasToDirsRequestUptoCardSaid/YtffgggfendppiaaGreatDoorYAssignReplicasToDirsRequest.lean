/- The reference's own fields of AssignReplicasToDirsRequest. -/
import Derived.Test.YtffgggfendppiaaGreatDoorPS
import Derived.Test.YtffgggfendppiaaGreatDoorLawA
import Derived.Handy
namespace Go.Proofs.YtffgggfendppiaaGreatDoor.Kf.YAssignReplicasToDirsRequest
set_option linter.unusedVariables false
set_option linter.unusedSimpArgs false
open Go Go.RowKit

def fs152 : List Fld := [.mk 3 0 (-1) (-1) (-1) 0 0 []]
set_option maxRecDepth 100000 in
theorem sp152 (w : World) : Calls Tryz.prog 152 #[] w (SubP fs152 w) := by
  go_enter Tryz.func152, Tryz.ntmps152
  go_wp2_with fail
  go_ret
  exact ⟨_, _, _, rfl, flds_newN (Only.refl _ _) (fun W B hB hW => (.leaf .nil)), (Only.refl _ _).alloc _⟩

def fs108 : List Fld := [.mk 7 0 (-1) (-1) (-1) 0 0 [], .mk 11 0 (-1) (-1) (-1) 0 10 fs152]
set_option maxRecDepth 100000 in
theorem sp108 (w : World) : Calls Tryz.prog 108 #[] w (SubP fs108 w) := by
  go_enter Tryz.func108, Tryz.ntmps108
  go_wp2_with (first | (go_at_call 152; refine (sp152 _).mono ?_; rintro e1 w1 ⟨A1, n1, c1, rfl, hF, hO⟩; have HF1 := Lib.hid hF; have HO1 := Lib.hid hO; clear hF hO))
  go_ret
  exact ⟨_, _, _, rfl, flds_newN HO1.out (fun W B hB hW => (.leaf (.node (HF1.out.use (Only.refl _ _) hB hW) .nil))), HO1.out.alloc _⟩

def fs66 : List Fld := [.mk 7 0 (-1) (-1) (-1) 0 0 [], .mk 11 0 (-1) (-1) (-1) 0 10 fs108]
set_option maxRecDepth 100000 in
theorem sp66 (w : World) : Calls Tryz.prog 66 #[] w (SubP fs66 w) := by
  go_enter Tryz.func66, Tryz.ntmps66
  go_wp2_with (first | (go_at_call 108; refine (sp108 _).mono ?_; rintro e1 w1 ⟨A1, n1, c1, rfl, hF, hO⟩; have HF1 := Lib.hid hF; have HO1 := Lib.hid hO; clear hF hO))
  go_ret
  exact ⟨_, _, _, rfl, flds_newN HO1.out (fun W B hB hW => (.leaf (.node (HF1.out.use (Only.refl _ _) hB hW) .nil))), HO1.out.alloc _⟩

def fs29 : List Fld := [.mk 3 0 (-1) (-1) (-1) 0 0 [], .mk 4 0 (-1) (-1) (-1) (-1) 0 [], .mk 11 0 (-1) (-1) (-1) 0 10 fs66]
set_option maxRecDepth 100000 in
theorem sp29 (w : World) : Calls Tryz.prog 29 #[] w (SpecP fs29 0 w) := by
  go_enter Tryz.func29, Tryz.ntmps29
  go_wp2_with (first | (go_at_call 66; refine (sp66 _).mono ?_; rintro e1 w1 ⟨A1, n1, c1, rfl, hF, hO⟩; have HF1 := Lib.hid hF; have HO1 := Lib.hid hO; clear hF hO; have hO := HO1.out; have cc0 : w1.cell? ⟨w.heap.size, 0, none⟩ = some (.slice none 0 0) := box0 hO 0 rfl; have cc1 : w1.cell? ⟨w.heap.size, 1, none⟩ = some (.int .i64 0) := box0 hO 1 rfl; have ff0 := box0f hO 0; have ff1 := box0f hO 1; have hlt : w.heap.size < w1.heap.size := Nat.lt_of_lt_of_le (by simp) hO.size; clear hO))
  generalize hW : World.alloc (World.setCell (World.setCell w1 _ _) _ _) _ = W'
  obtain ⟨e0, hb, hsz, hO, hk⟩ := made HO1.out hW
  clear hW cc0 cc1 ff0 ff1
  refine bodyPost_ret (results_cell_row Tryz.results29 _ _ w.heap.size _ _ _ _ rfl e0 Tryz.underlying32 rfl (by kernel_rfl)) rfl ?_
  exact ⟨_, _, _, rfl, flds_new hb (by omega) (.leaf (.leaf (.node (HF1.out _ _ (by omega) (fun k h1 h2 => hk k (by have := h1; simp at this; omega) h2)) .nil))), hO⟩
/-- The message's fields, its first flexible version. -/
def fs : List Fld := fs29
def fx : Int := 0
theorem spec (w : World) : Calls Tryz.prog 29 #[] w (SpecP fs fx w) := sp29 w

end Go.Proofs.YtffgggfendppiaaGreatDoor.Kf.YAssignReplicasToDirsRequest
