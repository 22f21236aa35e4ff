/- The reference's own fields of MetadataRequest. -/
import Derived.Test.YtcanhgcceagplaaGreatDoorPS
import Derived.Test.YtcanhgcceagplaaGreatDoorLawA
import Derived.Handy
namespace Go.Proofs.YtcanhgcceagplaaGreatDoor.Kf.YMetadataRequest
set_option linter.unusedVariables false
set_option linter.unusedSimpArgs false
open Go Go.RowKit

def fs33 : List Fld := [.mk 7 10 (-1) (-1) (-1) 0 0 [], .mk 8 0 (-1) 10 (-1) 0 0 []]
set_option maxRecDepth 100000 in
set_option maxHeartbeats 1000000 in
theorem sp33 (w : World) : Calls Tryz.prog 33 #[] w (SubP fs33 w) := by
  go_enter Tryz.func33, Tryz.ntmps33
  go_wp2_with fail
  go_ret
  exact ⟨_, _, _, rfl, flds_newN (Only.refl _ _) (fun W B hB hW => (.leaf (.leaf .nil))), (Only.refl _ _).alloc _⟩

def fs15 : List Fld := [.mk 11 0 (-1) 1 (-1) 0 10 fs33, .mk 0 4 (-1) (-1) (-1) 0 0 [], .mk 0 8 10 (-1) (-1) 0 0 [], .mk 0 8 (-1) (-1) (-1) 0 0 []]
set_option maxRecDepth 100000 in
set_option maxHeartbeats 1000000 in
theorem sp15 (w : World) : Calls Tryz.prog 15 #[] w (SpecP fs15 9 w) := by
  go_enter Tryz.func15, Tryz.ntmps15
  go_wp2_with (first | (go_at_call 33; refine (sp33 _).mono ?_; rintro e1 w1 ⟨A1, n1, c1, rfl, hF, hO⟩; have HF1 := Lib.hid hF; have HO1 := Lib.hid hO; clear hF hO; have hO := HO1.out; have cc0 : w1.cell? ⟨w.heap.size, 0, none⟩ = some (.slice none 0 0) := box0 hO 0 rfl; have cc1 : w1.cell? ⟨w.heap.size, 1, none⟩ = some (.int .i64 0) := box0 hO 1 rfl; have ff0 := box0f hO 0; have ff1 := box0f hO 1; have hlt : w.heap.size < w1.heap.size := Nat.lt_of_lt_of_le (by simp) hO.size; clear hO))
  generalize hW : World.alloc (World.setCell (World.setCell w1 _ _) _ _) _ = W'
  obtain ⟨e0, hb, hsz, hO, hk⟩ := made HO1.out hW
  clear hW cc0 cc1 ff0 ff1
  refine bodyPost_ret (results_cell_row Tryz.results15 _ _ w.heap.size _ _ _ _ rfl e0 Tryz.underlying32 rfl (by kernel_rfl)) rfl ?_
  exact ⟨_, _, _, rfl, flds_new hb (by omega) (.node (HF1.out _ _ (by omega) (fun k h1 h2 => hk k (by have := h1; simp at this; omega) h2)) (.leaf (.leaf (.leaf .nil)))), hO⟩
/-- The message's fields, its first flexible version. -/
def fs : List Fld := fs15
def fx : Int := 9
theorem spec (w : World) : Calls Tryz.prog 15 #[] w (SpecP fs fx w) := sp15 w

end Go.Proofs.YtcanhgcceagplaaGreatDoor.Kf.YMetadataRequest
