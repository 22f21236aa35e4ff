/- The reference's own fields of DescribeTopicPartitionsRequest. -/
import Derived.Test.YtffgggfendppiaaGreatDoorPS
import Derived.Test.YtffgggfendppiaaGreatDoorLawA
import Derived.Handy
namespace Go.Proofs.YtffgggfendppiaaGreatDoor.Kf.YDescribeTopicPartitionsRequest
set_option linter.unusedVariables false
set_option linter.unusedSimpArgs false
open Go Go.RowKit

def fs53 : List Fld := [.mk 8 0 (-1) (-1) (-1) 0 0 []]
set_option maxRecDepth 100000 in
theorem sp53 (w : World) : Calls Tryz.prog 53 #[] w (SubP fs53 w) := by
  go_enter Tryz.func53, Tryz.ntmps53
  go_wp2_with fail
  go_ret
  exact ⟨_, _, _, rfl, flds_newN (Only.refl _ _) (fun W B hB hW => (.leaf .nil)), (Only.refl _ _).alloc _⟩

def fs54 : List Fld := [.mk 8 0 (-1) (-1) (-1) 0 0 [], .mk 3 0 (-1) (-1) (-1) 0 0 []]
set_option maxRecDepth 100000 in
theorem sp54 (w : World) : Calls Tryz.prog 54 #[] w (SubP fs54 w) := by
  go_enter Tryz.func54, Tryz.ntmps54
  go_wp2_with fail
  go_ret
  exact ⟨_, _, _, rfl, flds_newN (Only.refl _ _) (fun W B hB hW => (.leaf (.leaf .nil))), (Only.refl _ _).alloc _⟩

def fs23 : List Fld := [.mk 11 0 (-1) (-1) (-1) 0 10 fs53, .mk 3 0 (-1) (-1) (-1) 2000 0 [], .mk 10 0 (-1) 0 (-1) 0 0 fs54]
set_option maxRecDepth 100000 in
theorem sp23 (w : World) : Calls Tryz.prog 23 #[] w (SpecP fs23 0 w) := by
  go_enter Tryz.func23, Tryz.ntmps23
  go_wp2_with (first | (go_at_call 53; refine (sp53 _).mono ?_; rintro e1 w1 ⟨A1, n1, c1, rfl, hF, hO⟩; have HF1 := Lib.hid hF; have HO1 := Lib.hid hO; clear hF hO; have hO := HO1.out; have cc0 : w1.cell? ⟨w.heap.size, 0, none⟩ = some (.slice none 0 0) := box0 hO 0 rfl; have cc1 : w1.cell? ⟨w.heap.size, 1, none⟩ = some (.int .i64 0) := box0 hO 1 rfl; have ff0 := box0f hO 0; have ff1 := box0f hO 1; have hlt : w.heap.size < w1.heap.size := Nat.lt_of_lt_of_le (by simp) hO.size; clear hO) | (go_at_call 54; refine (sp54 _).mono ?_; rintro e2 w2 ⟨A2, n2, c2, rfl, hF, hO⟩; have HF2 := Lib.hid hF; have HO2 := Lib.hid hO; clear hF hO; clear cc0 cc1 ff0 ff1 hlt; have hO := (HO1.out.trans HO2.out); have cc0 : w2.cell? ⟨w.heap.size, 0, none⟩ = some (.slice none 0 0) := box0 hO 0 rfl; have cc1 : w2.cell? ⟨w.heap.size, 1, none⟩ = some (.int .i64 0) := box0 hO 1 rfl; have ff0 := box0f hO 0; have ff1 := box0f hO 1; have hlt : w.heap.size < w2.heap.size := Nat.lt_of_lt_of_le (by simp) hO.size; clear hO))
  generalize hW : World.alloc (World.setCell (World.setCell w2 _ _) _ _) _ = W'
  obtain ⟨e0, hb, hsz, hO, hk⟩ := made (HO1.out.trans HO2.out) hW
  clear hW cc0 cc1 ff0 ff1
  refine bodyPost_ret (results_cell_row Tryz.results23 _ _ w.heap.size _ _ _ _ rfl e0 Tryz.underlying32 rfl (by kernel_rfl)) rfl ?_
  exact ⟨_, _, _, rfl, flds_new hb (by omega) (.node ((HF1.out.up HO2.out) _ _ (by omega) (fun k h1 h2 => hk k (by have := h1; simp at this; omega) h2)) (.leaf (.node ((HF2.out.dn HO1.out) _ _ (by omega) (fun k h1 h2 => hk k (by have := h1; simp at this; omega) h2)) .nil))), hO⟩
/-- The message's fields, its first flexible version. -/
def fs : List Fld := fs23
def fx : Int := 0
theorem spec (w : World) : Calls Tryz.prog 23 #[] w (SpecP fs fx w) := sp23 w

end Go.Proofs.YtffgggfendppiaaGreatDoor.Kf.YDescribeTopicPartitionsRequest
