/- The reference's own fields of DescribeConfigsResponse. -/
import Derived.Test.YtffgggfendppiaaGreatDoorPS
import Derived.Test.YtffgggfendppiaaGreatDoorLawA
import Derived.Handy
namespace Go.Proofs.YtffgggfendppiaaGreatDoor.Kf.YDescribeConfigsResponse
set_option linter.unusedVariables false
set_option linter.unusedSimpArgs false
open Go Go.RowKit

def fs141 : List Fld := [.mk 8 0 (-1) (-1) (-1) 0 0 [], .mk 8 0 (-1) 0 (-1) 0 0 [], .mk 1 0 (-1) (-1) (-1) 0 0 []]
set_option maxRecDepth 100000 in
set_option maxHeartbeats 1000000 in
theorem sp141 (w : World) : Calls Tryz.prog 141 #[] w (SubP fs141 w) := by
  go_enter Tryz.func141, Tryz.ntmps141
  go_wp2_with fail
  go_ret
  exact ⟨_, _, _, rfl, flds_newN (Only.refl _ _) (fun W B hB hW => (.leaf (.leaf (.leaf .nil)))), (Only.refl _ _).alloc _⟩

def fs98 : List Fld := [.mk 8 0 (-1) (-1) (-1) 0 0 [], .mk 8 0 (-1) 0 (-1) 0 0 [], .mk 0 0 (-1) (-1) (-1) 0 0 [], .mk 0 0 0 (-1) (-1) 0 0 [], .mk 1 1 (-1) (-1) (-1) (-1) 0 [], .mk 0 0 (-1) (-1) (-1) 0 0 [], .mk 11 1 (-1) (-1) (-1) 0 10 fs141, .mk 1 3 (-1) (-1) (-1) 0 0 [], .mk 8 3 (-1) 3 (-1) 0 0 []]
set_option maxRecDepth 100000 in
set_option maxHeartbeats 1000000 in
theorem sp98 (w : World) : Calls Tryz.prog 98 #[] w (SubP fs98 w) := by
  go_enter Tryz.func98, Tryz.ntmps98
  go_wp2_with (first | (go_at_call 141; refine (sp141 _).mono ?_; rintro e1 w1 ⟨A1, n1, c1, rfl, hF, hO⟩; have HF1 := Lib.hid hF; have HO1 := Lib.hid hO; clear hF hO))
  go_ret
  exact ⟨_, _, _, rfl, flds_newN HO1.out (fun W B hB hW => (.leaf (.leaf (.leaf (.leaf (.leaf (.leaf (.node (HF1.out.use (Only.refl _ _) hB hW) (.leaf (.leaf .nil)))))))))), HO1.out.alloc _⟩

def fs47 : List Fld := [.mk 2 0 (-1) (-1) (-1) 0 0 [], .mk 8 0 (-1) 0 (-1) 0 0 [], .mk 1 0 (-1) (-1) (-1) 0 0 [], .mk 8 0 (-1) (-1) (-1) 0 0 [], .mk 11 0 (-1) (-1) (-1) 0 10 fs98]
set_option maxRecDepth 100000 in
set_option maxHeartbeats 1000000 in
theorem sp47 (w : World) : Calls Tryz.prog 47 #[] w (SubP fs47 w) := by
  go_enter Tryz.func47, Tryz.ntmps47
  go_wp2_with (first | (go_at_call 98; refine (sp98 _).mono ?_; rintro e1 w1 ⟨A1, n1, c1, rfl, hF, hO⟩; have HF1 := Lib.hid hF; have HO1 := Lib.hid hO; clear hF hO))
  go_ret
  exact ⟨_, _, _, rfl, flds_newN HO1.out (fun W B hB hW => (.leaf (.leaf (.leaf (.leaf (.node (HF1.out.use (Only.refl _ _) hB hW) .nil)))))), HO1.out.alloc _⟩

def fs20 : List Fld := [.mk 3 0 (-1) (-1) (-1) 0 0 [], .mk 11 0 (-1) (-1) (-1) 0 10 fs47]
set_option maxRecDepth 100000 in
set_option maxHeartbeats 1000000 in
theorem sp20 (w : World) : Calls Tryz.prog 20 #[] w (SpecP fs20 4 w) := by
  go_enter Tryz.func20, Tryz.ntmps20
  go_wp2_with (first | (go_at_call 47; refine (sp47 _).mono ?_; rintro e1 w1 ⟨A1, n1, c1, rfl, hF, hO⟩; have HF1 := Lib.hid hF; have HO1 := Lib.hid hO; clear hF hO; have hO := HO1.out; have cc0 : w1.cell? ⟨w.heap.size, 0, none⟩ = some (.slice none 0 0) := box0 hO 0 rfl; have cc1 : w1.cell? ⟨w.heap.size, 1, none⟩ = some (.int .i64 0) := box0 hO 1 rfl; have ff0 := box0f hO 0; have ff1 := box0f hO 1; have hlt : w.heap.size < w1.heap.size := Nat.lt_of_lt_of_le (by simp) hO.size; clear hO))
  generalize hW : World.alloc (World.setCell (World.setCell w1 _ _) _ _) _ = W'
  obtain ⟨e0, hb, hsz, hO, hk⟩ := made HO1.out hW
  clear hW cc0 cc1 ff0 ff1
  refine bodyPost_ret (results_cell_row Tryz.results20 _ _ w.heap.size _ _ _ _ rfl e0 Tryz.underlying32 rfl (by kernel_rfl)) rfl ?_
  exact ⟨_, _, _, rfl, flds_new hb (by omega) (.leaf (.node (HF1.out _ _ (by omega) (fun k h1 h2 => hk k (by have := h1; simp at this; omega) h2)) .nil)), hO⟩
/-- The message's fields, its first flexible version. -/
def fs : List Fld := fs20
def fx : Int := 4
theorem spec (w : World) : Calls Tryz.prog 20 #[] w (SpecP fs fx w) := sp20 w

end Go.Proofs.YtffgggfendppiaaGreatDoor.Kf.YDescribeConfigsResponse
