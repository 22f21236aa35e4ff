/- The reference's own fields of ProduceResponse. -/
import Derived.Test.YthlfepgcjomhpaaPS
import Derived.Test.YthlfepgcjomhpaaLawA
import Derived.Handy
namespace Go.Proofs.Ythlfepgcjomhpaa.Kf.YProduceResponse
set_option linter.unusedVariables false
set_option linter.unusedSimpArgs false
open Go Go.RowKit

def fs63 : List Fld := [.mk 3 0 (-1) (-1) (-1) 0 0 [], .mk 8 0 (-1) 0 (-1) 0 0 []]
set_option maxRecDepth 100000 in
set_option maxHeartbeats 1000000 in
theorem sp63 (w : World) : Calls Try.prog 63 #[] w (SubP fs63 w) := by
  go_enter Try.func63, Try.ntmps63
  go_wp2_with fail
  go_ret
  exact ⟨_, _, _, rfl, flds_newN (Only.refl _ _) (fun W B hB hW => (.leaf (.leaf .nil))), (Only.refl _ _).alloc _⟩

def fs64 : List Fld := [.mk 3 0 (-1) (-1) (-1) (-1) 0 [], .mk 3 0 (-1) (-1) (-1) (-1) 0 []]
set_option maxRecDepth 100000 in
set_option maxHeartbeats 1000000 in
theorem sp64 (w : World) : Calls Try.prog 64 #[] w (SubP fs64 w) := by
  go_enter Try.func64, Try.ntmps64
  go_wp2_with fail
  go_ret
  exact ⟨_, _, _, rfl, flds_newN (Only.refl _ _) (fun W B hB hW => (.leaf (.leaf .nil))), (Only.refl _ _).alloc _⟩

def fs37 : List Fld := [.mk 3 0 (-1) (-1) (-1) 0 0 [], .mk 2 0 (-1) (-1) (-1) 0 0 [], .mk 4 0 (-1) (-1) (-1) 0 0 [], .mk 4 2 (-1) (-1) (-1) (-1) 0 [], .mk 4 5 (-1) (-1) (-1) (-1) 0 [], .mk 11 8 (-1) (-1) (-1) 0 10 fs63, .mk 8 8 (-1) 8 (-1) 0 0 [], .mk 10 0 (-1) (-1) 0 0 0 fs64]
set_option maxRecDepth 100000 in
set_option maxHeartbeats 1000000 in
theorem sp37 (w : World) : Calls Try.prog 37 #[] w (SubP fs37 w) := by
  go_enter Try.func37, Try.ntmps37
  go_wp2_with (first | (go_at_call 63; refine (sp63 _).mono ?_; rintro e1 w1 ⟨A1, n1, c1, rfl, hF, hO⟩; have HF1 := Lib.hid hF; have HO1 := Lib.hid hO; clear hF hO) | (go_at_call 64; refine (sp64 _).mono ?_; rintro e2 w2 ⟨A2, n2, c2, rfl, hF, hO⟩; have HF2 := Lib.hid hF; have HO2 := Lib.hid hO; clear hF hO))
  go_ret
  exact ⟨_, _, _, rfl, flds_newN (HO1.out.trans HO2.out) (fun W B hB hW => (.leaf (.leaf (.leaf (.leaf (.leaf (.node ((HF1.out.up HO2.out).use (Only.refl _ _) hB hW) (.leaf (.node ((HF2.out.dn HO1.out).use (Only.refl _ _) hB hW) .nil))))))))), (HO1.out.trans HO2.out).alloc _⟩

def fs28 : List Fld := [.mk 8 0 12 (-1) (-1) 0 0 [], .mk 7 13 (-1) (-1) (-1) 0 0 [], .mk 11 0 (-1) (-1) (-1) 0 10 fs37]
set_option maxRecDepth 100000 in
set_option maxHeartbeats 1000000 in
theorem sp28 (w : World) : Calls Try.prog 28 #[] w (SubP fs28 w) := by
  go_enter Try.func28, Try.ntmps28
  go_wp2_with (first | (go_at_call 37; refine (sp37 _).mono ?_; rintro e1 w1 ⟨A1, n1, c1, rfl, hF, hO⟩; have HF1 := Lib.hid hF; have HO1 := Lib.hid hO; clear hF hO))
  go_ret
  exact ⟨_, _, _, rfl, flds_newN HO1.out (fun W B hB hW => (.leaf (.leaf (.node (HF1.out.use (Only.refl _ _) hB hW) .nil)))), HO1.out.alloc _⟩

def fs29 : List Fld := [.mk 3 0 (-1) (-1) (-1) 0 0 [], .mk 8 0 (-1) (-1) (-1) 0 0 [], .mk 3 0 (-1) (-1) (-1) 0 0 [], .mk 8 0 (-1) 0 (-1) 0 0 []]
set_option maxRecDepth 100000 in
set_option maxHeartbeats 1000000 in
theorem sp29 (w : World) : Calls Try.prog 29 #[] w (SubP fs29 w) := by
  go_enter Try.func29, Try.ntmps29
  go_wp2_with fail
  go_ret
  exact ⟨_, _, _, rfl, flds_newN (Only.refl _ _) (fun W B hB hW => (.leaf (.leaf (.leaf (.leaf .nil))))), (Only.refl _ _).alloc _⟩

def fs15 : List Fld := [.mk 11 0 (-1) (-1) (-1) 0 10 fs28, .mk 3 1 (-1) (-1) (-1) 0 0 [], .mk 11 0 (-1) (-1) 0 0 10 fs29]
set_option maxRecDepth 100000 in
set_option maxHeartbeats 1000000 in
theorem sp15 (w : World) : Calls Try.prog 15 #[] w (SpecP fs15 9 w) := by
  go_enter Try.func15, Try.ntmps15
  go_wp2_with (first | (go_at_call 28; refine (sp28 _).mono ?_; rintro e1 w1 ⟨A1, n1, c1, rfl, hF, hO⟩; have HF1 := Lib.hid hF; have HO1 := Lib.hid hO; clear hF hO; have hO := HO1.out; have cc0 : w1.cell? ⟨w.heap.size, 0, none⟩ = some (.slice none 0 0) := box0 hO 0 rfl; have cc1 : w1.cell? ⟨w.heap.size, 1, none⟩ = some (.int .i64 0) := box0 hO 1 rfl; have ff0 := box0f hO 0; have ff1 := box0f hO 1; have hlt : w.heap.size < w1.heap.size := Nat.lt_of_lt_of_le (by simp) hO.size; clear hO) | (go_at_call 29; refine (sp29 _).mono ?_; rintro e2 w2 ⟨A2, n2, c2, rfl, hF, hO⟩; have HF2 := Lib.hid hF; have HO2 := Lib.hid hO; clear hF hO; clear cc0 cc1 ff0 ff1 hlt; have hO := (HO1.out.trans HO2.out); have cc0 : w2.cell? ⟨w.heap.size, 0, none⟩ = some (.slice none 0 0) := box0 hO 0 rfl; have cc1 : w2.cell? ⟨w.heap.size, 1, none⟩ = some (.int .i64 0) := box0 hO 1 rfl; have ff0 := box0f hO 0; have ff1 := box0f hO 1; have hlt : w.heap.size < w2.heap.size := Nat.lt_of_lt_of_le (by simp) hO.size; clear hO))
  generalize hW : World.alloc (World.setCell (World.setCell w2 _ _) _ _) _ = W'
  obtain ⟨e0, hb, hsz, hO, hk⟩ := made (HO1.out.trans HO2.out) hW
  clear hW cc0 cc1 ff0 ff1
  refine bodyPost_ret (results_cell_row Try.results15 _ _ w.heap.size _ _ _ _ rfl e0 Try.underlying40 rfl (by kernel_rfl)) rfl ?_
  exact ⟨_, _, _, rfl, flds_new hb (by omega) (.node ((HF1.out.up HO2.out) _ _ (by omega) (fun k h1 h2 => hk k (by have := h1; simp at this; omega) h2)) (.leaf (.node ((HF2.out.dn HO1.out) _ _ (by omega) (fun k h1 h2 => hk k (by have := h1; simp at this; omega) h2)) .nil))), hO⟩
/-- The message's fields, its first flexible version. -/
def fs : List Fld := fs15
def fx : Int := 9
theorem spec (w : World) : Calls Try.prog 15 #[] w (SpecP fs fx w) := sp15 w

end Go.Proofs.Ythlfepgcjomhpaa.Kf.YProduceResponse
