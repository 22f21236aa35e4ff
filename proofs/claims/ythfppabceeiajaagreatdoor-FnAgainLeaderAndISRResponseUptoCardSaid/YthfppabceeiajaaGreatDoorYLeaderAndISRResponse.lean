/- The reference's own fields of LeaderAndISRResponse. -/
import Derived.Test.YthfppabceeiajaaGreatDoorPS
import Derived.Test.YthfppabceeiajaaGreatDoorLawA
import Derived.Handy
namespace Go.Proofs.YthfppabceeiajaaGreatDoor.Kf.YLeaderAndISRResponse
set_option linter.unusedVariables false
set_option linter.unusedSimpArgs false
open Go Go.RowKit

def fs33 : List Fld := [.mk 8 0 4 (-1) (-1) 0 0 [], .mk 3 0 (-1) (-1) (-1) 0 0 [], .mk 2 0 (-1) (-1) (-1) 0 0 []]
set_option maxRecDepth 100000 in
set_option maxHeartbeats 1000000 in
theorem sp33 (w : World) : Calls Tryz.prog 33 #[] w (SubP fs33 w) := by
  go_enter Tryz.func33, Tryz.ntmps33
  go_wp2_with fail
  go_ret
  exact ⟨_, _, _, rfl, flds_newN (Only.refl _ _) (fun W B hB hW => (.leaf (.leaf (.leaf .nil)))), (Only.refl _ _).alloc _⟩

def fs34 : List Fld := [.mk 7 0 (-1) (-1) (-1) 0 0 [], .mk 11 0 (-1) (-1) (-1) 0 10 fs33]
set_option maxRecDepth 100000 in
set_option maxHeartbeats 1000000 in
theorem sp34 (w : World) : Calls Tryz.prog 34 #[] w (SubP fs34 w) := by
  go_enter Tryz.func34, Tryz.ntmps34
  go_wp2_with (first | (go_at_call 33; refine (sp33 _).mono ?_; rintro e1 w1 ⟨A1, n1, c1, rfl, hF, hO⟩; have HF1 := Lib.hid hF; have HO1 := Lib.hid hO; clear hF hO))
  go_ret
  exact ⟨_, _, _, rfl, flds_newN HO1.out (fun W B hB hW => (.leaf (.node (HF1.out.use (Only.refl _ _) hB hW) .nil))), HO1.out.alloc _⟩

def fs14 : List Fld := [.mk 2 0 (-1) (-1) (-1) 0 0 [], .mk 11 0 4 (-1) (-1) 0 10 fs33, .mk 11 5 (-1) (-1) (-1) 0 10 fs34]
set_option maxRecDepth 100000 in
set_option maxHeartbeats 1000000 in
theorem sp14 (w : World) : Calls Tryz.prog 14 #[] w (SpecP fs14 4 w) := by
  go_enter Tryz.func14, Tryz.ntmps14
  go_wp2_with (first | (go_at_call 33; refine (sp33 _).mono ?_; rintro e1 w1 ⟨A1, n1, c1, rfl, hF, hO⟩; have HF1 := Lib.hid hF; have HO1 := Lib.hid hO; clear hF hO; have hO := HO1.out; have cc0 : w1.cell? ⟨w.heap.size, 0, none⟩ = some (.slice none 0 0) := box0 hO 0 rfl; have cc1 : w1.cell? ⟨w.heap.size, 1, none⟩ = some (.int .i64 0) := box0 hO 1 rfl; have ff0 := box0f hO 0; have ff1 := box0f hO 1; have hlt : w.heap.size < w1.heap.size := Nat.lt_of_lt_of_le (by simp) hO.size; clear hO) | (go_at_call 34; refine (sp34 _).mono ?_; rintro e2 w2 ⟨A2, n2, c2, rfl, hF, hO⟩; have HF2 := Lib.hid hF; have HO2 := Lib.hid hO; clear hF hO; clear cc0 cc1 ff0 ff1 hlt; have hO := (HO1.out.trans HO2.out); have cc0 : w2.cell? ⟨w.heap.size, 0, none⟩ = some (.slice none 0 0) := box0 hO 0 rfl; have cc1 : w2.cell? ⟨w.heap.size, 1, none⟩ = some (.int .i64 0) := box0 hO 1 rfl; have ff0 := box0f hO 0; have ff1 := box0f hO 1; have hlt : w.heap.size < w2.heap.size := Nat.lt_of_lt_of_le (by simp) hO.size; clear hO))
  generalize hW : World.alloc (World.setCell (World.setCell w2 _ _) _ _) _ = W'
  obtain ⟨e0, hb, hsz, hO, hk⟩ := made (HO1.out.trans HO2.out) hW
  clear hW cc0 cc1 ff0 ff1
  refine bodyPost_ret (results_cell_row Tryz.results14 _ _ w.heap.size _ _ _ _ rfl e0 Tryz.underlying33 rfl (by kernel_rfl)) rfl ?_
  exact ⟨_, _, _, rfl, flds_new hb (by omega) (.leaf (.node ((HF1.out.up HO2.out) _ _ (by omega) (fun k h1 h2 => hk k (by have := h1; simp at this; omega) h2)) (.node ((HF2.out.dn HO1.out) _ _ (by omega) (fun k h1 h2 => hk k (by have := h1; simp at this; omega) h2)) .nil))), hO⟩
/-- The message's fields, its first flexible version. -/
def fs : List Fld := fs14
def fx : Int := 4
theorem spec (w : World) : Calls Tryz.prog 14 #[] w (SpecP fs fx w) := sp14 w

end Go.Proofs.YthfppabceeiajaaGreatDoor.Kf.YLeaderAndISRResponse
