/- The reference's own fields of AlterPartitionResponse. -/
import Derived.Test.YthfppabceeiajaaGreatDoorPS
import Derived.Test.YthfppabceeiajaaGreatDoorLawA
import Derived.Handy
namespace Go.Proofs.YthfppabceeiajaaGreatDoor.Kf.YAlterPartitionResponse
set_option linter.unusedVariables false
set_option linter.unusedSimpArgs false
open Go Go.RowKit

def fs78 : List Fld := [.mk 3 0 (-1) (-1) (-1) 0 0 [], .mk 2 0 (-1) (-1) (-1) 0 0 [], .mk 3 0 (-1) (-1) (-1) 0 0 [], .mk 3 0 (-1) (-1) (-1) 0 0 [], .mk 11 0 (-1) (-1) (-1) 0 3 [], .mk 1 1 (-1) (-1) (-1) 0 0 [], .mk 3 0 (-1) (-1) (-1) 0 0 []]
set_option maxRecDepth 100000 in
set_option maxHeartbeats 1000000 in
theorem sp78 (w : World) : Calls Tryz.prog 78 #[] w (SubP fs78 w) := by
  go_enter Tryz.func78, Tryz.ntmps78
  go_wp2_with fail
  go_ret
  exact ⟨_, _, _, rfl, flds_newN (Only.refl _ _) (fun W B hB hW => (.leaf (.leaf (.leaf (.leaf (.leaf (.leaf (.leaf .nil)))))))), (Only.refl _ _).alloc _⟩

def fs40 : List Fld := [.mk 8 0 1 (-1) (-1) 0 0 [], .mk 7 2 (-1) (-1) (-1) 0 0 [], .mk 11 0 (-1) (-1) (-1) 0 10 fs78]
set_option maxRecDepth 100000 in
set_option maxHeartbeats 1000000 in
theorem sp40 (w : World) : Calls Tryz.prog 40 #[] w (SubP fs40 w) := by
  go_enter Tryz.func40, Tryz.ntmps40
  go_wp2_with (first | (go_at_call 78; refine (sp78 _).mono ?_; rintro e1 w1 ⟨A1, n1, c1, rfl, hF, hO⟩; have HF1 := Lib.hid hF; have HO1 := Lib.hid hO; clear hF hO))
  go_ret
  exact ⟨_, _, _, rfl, flds_newN HO1.out (fun W B hB hW => (.leaf (.leaf (.node (HF1.out.use (Only.refl _ _) hB hW) .nil)))), HO1.out.alloc _⟩

def fs18 : List Fld := [.mk 3 0 (-1) (-1) (-1) 0 0 [], .mk 2 0 (-1) (-1) (-1) 0 0 [], .mk 11 0 (-1) (-1) (-1) 0 10 fs40]
set_option maxRecDepth 100000 in
set_option maxHeartbeats 1000000 in
theorem sp18 (w : World) : Calls Tryz.prog 18 #[] w (SpecP fs18 0 w) := by
  go_enter Tryz.func18, Tryz.ntmps18
  go_wp2_with (first | (go_at_call 40; refine (sp40 _).mono ?_; rintro e1 w1 ⟨A1, n1, c1, rfl, hF, hO⟩; have HF1 := Lib.hid hF; have HO1 := Lib.hid hO; clear hF hO; have hO := HO1.out; have cc0 : w1.cell? ⟨w.heap.size, 0, none⟩ = some (.slice none 0 0) := box0 hO 0 rfl; have cc1 : w1.cell? ⟨w.heap.size, 1, none⟩ = some (.int .i64 0) := box0 hO 1 rfl; have ff0 := box0f hO 0; have ff1 := box0f hO 1; have hlt : w.heap.size < w1.heap.size := Nat.lt_of_lt_of_le (by simp) hO.size; clear hO))
  generalize hW : World.alloc (World.setCell (World.setCell w1 _ _) _ _) _ = W'
  obtain ⟨e0, hb, hsz, hO, hk⟩ := made HO1.out hW
  clear hW cc0 cc1 ff0 ff1
  refine bodyPost_ret (results_cell_row Tryz.results18 _ _ w.heap.size _ _ _ _ rfl e0 Tryz.underlying33 rfl (by kernel_rfl)) rfl ?_
  exact ⟨_, _, _, rfl, flds_new hb (by omega) (.leaf (.leaf (.node (HF1.out _ _ (by omega) (fun k h1 h2 => hk k (by have := h1; simp at this; omega) h2)) .nil))), hO⟩
/-- The message's fields, its first flexible version. -/
def fs : List Fld := fs18
def fx : Int := 0
theorem spec (w : World) : Calls Tryz.prog 18 #[] w (SpecP fs fx w) := sp18 w

end Go.Proofs.YthfppabceeiajaaGreatDoor.Kf.YAlterPartitionResponse
