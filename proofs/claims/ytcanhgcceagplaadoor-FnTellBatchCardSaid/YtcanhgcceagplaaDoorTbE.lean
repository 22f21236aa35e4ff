/- Batches of records in this program: the helpers of the law, and the package's reading of a batch as the law asks it. -/
import Derived.Test.YtcanhgcceagplaaDoorTbD
import Derived.Test.YtcanhgcceagplaaDoorSpS
import Derived.Laws.Rows
import Derived.Laws.Tables
namespace Go.Proofs.YtcanhgcceagplaaDoor.Kf
set_option linter.unusedVariables false
set_option linter.unusedSimpArgs false
open Go Go.RowKit

theorem wpList_load_row {P : Program} {ops : Array Oper} {rest : List Oper} {o : Oper} {a : Act} {w : World} {Q : Exit → Act → World → Prop} (hw : Region.wanted o (yielded ops a.tmps) = true) (ty : TypeId) (x : Operand) (ho : o.op = .load ty x) (b : Nat) (C : Array Value) (t : TypeId) (fr : Nat × Nat) (d : TypeDesc)
    (hx : a.eval x = .pointer (some ⟨b, 0, none⟩)) (hb : w.heap[b]? = some (.cells C t fr)) (hu : P.underlying ty = some d) (hd : (match d with | .struct _ | .array _ _ => true | _ => false) = true) (hi : (P.info? ty).map (·.size) = some C.size)
    (h : wpList P ops Q rest (a.put o.dst (.agg C)) w) : wpList P ops Q (o :: rest) a w :=
  wpList_step fun K hK => by
    rw [if_pos hw]
    unfold Oper.wp execOp
    simp only [ho, hx, Instr.loadAt, Instr.sureAddr, Sem.run_bind, Sem.run_pure, Result.andThen_ok, run_loadVar_row w b t ty C fr d hb hu hd hi]
    exact hK _ _ h
theorem wpList_store_row {P : Program} {ops : Array Oper} {rest : List Oper} {o : Oper} {a : Act} {w : World} {Q : Exit → Act → World → Prop} (hw : Region.wanted o (yielded ops a.tmps) = true) (ty : TypeId) (x y : Operand) (ho : o.op = .store ty x y) (b : Nat) (old C : Array Value) (t : TypeId)
    (hx : a.eval x = .pointer (some ⟨b, 0, none⟩)) (hy : a.eval y = .agg C) (hb : w.heap[b]? = some (.cells old t (0, 0))) (hi : (P.info? ty).map (·.size) = some C.size) (hs : old.size = C.size) (h1 : C.all (·.oneCell') = true)
    (h : wpList P ops Q rest (a.put o.dst undef) (w.setRow b C)) : wpList P ops Q (o :: rest) a w :=
  wpList_step fun K hK => by
    rw [if_pos hw]
    unfold Oper.wp execOp
    simp only [ho, hx, hy, Instr.storeAt, Instr.sureAddr, Sem.run_bind, Sem.run_pure, Result.andThen_ok, run_storeVar_row w b t ty old C hb hi hs h1]
    exact hK _ _ h
theorem setRow_same {w : World} {b : Nat} {old C : Array Value} {t : TypeId} {fr : Nat × Nat} (h : w.heap[b]? = some (.cells old t fr)) : (w.setRow b C).heap[b]? = some (.cells C t fr) := by
  simp [World.setRow, Array.getElem?_modify, h]
theorem setRow_other {w : World} {b g : Nat} {C : Array Value} (h : g ≠ b) : (w.setRow b C).heap[g]? = w.heap[g]? := by
  simp [World.setRow, Array.getElem?_modify, Ne.symm h]
theorem only_setRow {w w' : World} {b : Nat} {C : Array Value} (h : Only (fun _ => False) w w') (hb : w.heap.size ≤ b) : Only (fun _ => False) w (w'.setRow b C) :=
  ⟨h.os, h.tape, h.output, by simpa using h.size, fun q hq hf => by rw [setRow_other (by omega)]; exact h.block q hq hf⟩
theorem only_setCell {w w' : World} {b j : Nat} {v : Value} (h : Only (fun _ => False) w w') (hb : w.heap.size ≤ b) : Only (fun _ => False) w (w'.setCell ⟨b, j, none⟩ v) :=
  ⟨h.os, h.tape, h.output, by simpa using h.size, fun q hq hf => by rw [heap_setCell_other _ _ _ _ (by show q ≠ b; omega)]; exact h.block q hq hf⟩
theorem heap_alloc_old {w : World} {o : Obj} {b : Nat} (h : b < w.heap.size) : (w.alloc o).heap[b]? = w.heap[b]? := by
  show (w.heap.push o)[b]? = _
  rw [Array.getElem?_push, if_neg (by omega)]

theorem cell_row {w : World} {b j : Nat} {C : Array Value} {t : TypeId} {fr : Nat × Nat} {v : Value} (hb : w.heap[b]? = some (.cells C t fr)) (hj : C[j]? = some v) : w.cell? ⟨b, j, none⟩ = some v := by simp [World.cell?, hb, hj]
theorem info_bt : (Tryd.prog.info? 26).map (·.size) = some 14 := by kernel_rfl
def zb : Array Value := #[.int .i64 0, .int .i32 0, .int .i32 0, .int .i8 0, .int .i32 0, .int .i16 0, .int .i32 0, .int .i64 0, .int .i64 0, .int .i64 0, .int .i16 0, .int .i32 0, .int .i32 0, .slice none 0 0]
theorem Bt.size (b : Bt) (v : Value) : (b.cells v).size = 14 := rfl
theorem Bt.one (b : Bt) (A : Option Addr) (n c : Nat) : (b.cells (.slice A n c)).all (·.oneCell') = true := by
  rw [Array.all_eq_true_iff_forall_mem]
  intro x hx
  simp [Bt.cells] at hx
  rcases hx with h | h | h | h | h | h | h | h | h | h | h | h | h | h <;> subst h <;> rfl

set_option maxRecDepth 100000 in
theorem own_calls (w : World) (B : Nat) (v : Value) (s : List UInt8) (hB : B ≤ w.heap.size) (hv : Oc w B v s) (hl : s.length ≤ lim2) : Calls Tryd.prog 24 #[v] w (SpP 5 w s) := by
  obtain ⟨i0, hi, hz0, hz1, hz2⟩ := info_u8
  obtain ⟨A, c, rfl, _⟩ := hv.sl
  have HV := Lib.hid hv
  have HL : Hid (([] : List UInt8).length + s.length ≤ lim2) := Lib.hid (by simpa using hl)
  clear hB hv hl
  have HN : Hid (Own 5 w.heap.size w (.slice none 0 0) []) := Lib.hid (World.ownsRow_nil _ _ _ _)
  generalize s.length = n at HV
  go_enter Tryd.func24, Tryd.ntmps24
  go_wp2_with (first | (at_builtin; (refine wp_app_oc rfl _ _ 24 rfl Tryd.underlying24 hi hz0 hz1 hz2 rfl (base := w.heap.size) HN.out rfl HV.out (Nat.le_refl _) HL.out ?_; intro v5 w5 ho5 hw5; have HO5 : Hid (Own 5 w.heap.size w5 v5 s) := Lib.hid ho5; have HT5 := Lib.hid ((Only.refl (fun _ => False) w).own hw5 (Nat.le_refl _)); clear ho5 hw5)) | fail)
  go_ret
  exact ⟨_, rfl, HO5.out, HT5.out⟩

set_option maxRecDepth 100000 in
theorem fits11 (w : World) (b : Bt) (A : Option Addr) (n c : Nat) : Calls Tryd.prog 6 #[.agg (b.cells (.slice A n c))] w fun e w' => ∃ bb, e = .returned (.bool bb) ∧ Only (fun _ => False) w w' := by
  obtain ⟨C, hC⟩ : ∃ C, b.cells (.slice A n c) = C := ⟨_, rfl⟩
  rw [hC]
  have c13 : C[13]? = some (.slice A n c) := by rw [← hC]; rfl
  clear hC
  have h13 : (w.alloc (.cells C 26)).cell? ⟨w.heap.size, 13, none⟩ = some (.slice A n c) := cell_row (heap_alloc_new _ _) c13
  have HO : Hid (Only (fun _ => False) w (w.alloc (.cells C 26))) := Lib.hid ((Only.refl _ _).alloc _)
  clear c13
  go_enter Tryd.func6, Tryd.ntmps6
  go_wp2_with fail
  all_goals go_ret
  all_goals exact ⟨_, rfl, HO.out⟩

set_option maxRecDepth 100000 in
theorem whole_calls (w : World) (b : Bt) (A : Option Addr) (n c : Nat) (hn : n ≤ 131072) : Calls Tryd.prog 7 #[.agg (b.cells (.slice A n c))] w fun e w' => e = .returned (.agg ({ b with n1 := 49 + n }.cells (.slice A n c))) ∧ Only (fun _ => False) w w' := by
  obtain ⟨C, hC⟩ : ∃ C, b.cells (.slice A n c) = C := ⟨_, rfl⟩
  obtain ⟨C', hC'⟩ : ∃ C', ({ b with n1 := 49 + n } : Bt).cells (.slice A n c) = C' := ⟨_, rfl⟩
  rw [hC, hC']
  have c13 : C[13]? = some (.slice A n c) := by rw [← hC]; rfl
  have c1 : C[1]? = some (.int .i32 b.n1) := by rw [← hC]; rfl
  have hset : C.setIfInBounds 1 (.int .i32 (49 + n)) = C' := by rw [← hC, ← hC']; rfl
  have HS : Hid (C'.size = 14) := Lib.hid (by rw [← hC']; rfl)
  have H1 : Hid (C'.all (·.oneCell') = true) := Lib.hid (by rw [← hC']; exact Bt.one _ A n c)
  clear hC hC'
  have hb0 : ((w.alloc (.cells C 26)).alloc (.cells #[.int .i64 0, .int .i32 0, .int .i32 0, .int .i8 0, .int .i32 0, .int .i16 0, .int .i32 0, .int .i64 0, .int .i64 0, .int .i64 0, .int .i16 0, .int .i32 0, .int .i32 0, .slice none 0 0] 26)).heap[w.heap.size]? = some (.cells C 26 (0, 0)) := by rw [heap_alloc_old (by simp), heap_alloc_new]
  have hb1 : ((w.alloc (.cells C 26)).alloc (.cells #[.int .i64 0, .int .i32 0, .int .i32 0, .int .i8 0, .int .i32 0, .int .i16 0, .int .i32 0, .int .i64 0, .int .i64 0, .int .i64 0, .int .i16 0, .int .i32 0, .int .i32 0, .slice none 0 0] 26)).heap[w.heap.size + 1]? = some (.cells #[.int .i64 0, .int .i32 0, .int .i32 0, .int .i8 0, .int .i32 0, .int .i16 0, .int .i32 0, .int .i64 0, .int .i64 0, .int .i64 0, .int .i16 0, .int .i32 0, .int .i32 0, .slice none 0 0] 26 (0, 0)) := by
    have := heap_alloc_new (w.alloc (.cells C 26)) (.cells #[.int .i64 0, .int .i32 0, .int .i32 0, .int .i8 0, .int .i32 0, .int .i16 0, .int .i32 0, .int .i64 0, .int .i64 0, .int .i64 0, .int .i16 0, .int .i32 0, .int .i32 0, .slice none 0 0] 26)
    simpa using this
  have hO : Only (fun _ => False) w ((w.alloc (.cells C 26)).alloc (.cells #[.int .i64 0, .int .i32 0, .int .i32 0, .int .i8 0, .int .i32 0, .int .i16 0, .int .i32 0, .int .i64 0, .int .i64 0, .int .i64 0, .int .i16 0, .int .i32 0, .int .i32 0, .slice none 0 0] 26)) := ((Only.refl _ _).alloc _).alloc _
  have h13 := cell_row (j := 13) hb0 c13
  have h1 := cell_row (j := 1) hb0 c1
  have hf1 : ((w.alloc (.cells C 26)).alloc (.cells #[.int .i64 0, .int .i32 0, .int .i32 0, .int .i8 0, .int .i32 0, .int .i16 0, .int .i32 0, .int .i64 0, .int .i64 0, .int .i64 0, .int .i16 0, .int .i32 0, .int .i32 0, .slice none 0 0] 26)).frozen? ⟨w.heap.size, 1, none⟩ = false := by simp [World.frozen?, hb0]
  have ew : wrap64 (49 + (n : Int)) = 49 + n := by unfold wrap64; omega
  have ew2 : IntKind.i32.wrap (49 + (n : Int)) = 49 + n := by unfold IntKind.wrap; simp [IntKind.signed, IntKind.bits]; omega
  clear hb0 hb1 hO
  have HC2 : Hid (((w.alloc (.cells C' 26)).alloc (.cells #[.int .i64 0, .int .i32 0, .int .i32 0, .int .i8 0, .int .i32 0, .int .i16 0, .int .i32 0, .int .i64 0, .int .i64 0, .int .i64 0, .int .i16 0, .int .i32 0, .int .i32 0, .slice none 0 0] 26)).heap[w.heap.size]? = some (.cells C' 26 (0, 0))) := Lib.hid (by rw [heap_alloc_old (by simp), heap_alloc_new])
  have HC3 : Hid (((w.alloc (.cells C' 26)).alloc (.cells #[.int .i64 0, .int .i32 0, .int .i32 0, .int .i8 0, .int .i32 0, .int .i16 0, .int .i32 0, .int .i64 0, .int .i64 0, .int .i64 0, .int .i16 0, .int .i32 0, .int .i32 0, .slice none 0 0] 26)).heap[w.heap.size + 1]? = some (.cells #[.int .i64 0, .int .i32 0, .int .i32 0, .int .i8 0, .int .i32 0, .int .i16 0, .int .i32 0, .int .i64 0, .int .i64 0, .int .i64 0, .int .i16 0, .int .i32 0, .int .i32 0, .slice none 0 0] 26 (0, 0))) := Lib.hid (by
    have := heap_alloc_new (w.alloc (.cells C' 26)) (.cells #[.int .i64 0, .int .i32 0, .int .i32 0, .int .i8 0, .int .i32 0, .int .i16 0, .int .i32 0, .int .i64 0, .int .i64 0, .int .i64 0, .int .i16 0, .int .i32 0, .int .i32 0, .slice none 0 0] 26)
    simpa using this)
  have HO : Hid (Only (fun _ => False) w ((w.alloc (.cells C' 26)).alloc (.cells #[.int .i64 0, .int .i32 0, .int .i32 0, .int .i8 0, .int .i32 0, .int .i16 0, .int .i32 0, .int .i64 0, .int .i64 0, .int .i64 0, .int .i16 0, .int .i32 0, .int .i32 0, .slice none 0 0] 26))) := Lib.hid (((Only.refl _ _).alloc _).alloc _)
  clear c13 c1
  go_enter Tryd.func7, Tryd.ntmps7
  go_wp2_with (first
    | (refine wpList_load_row rfl 26 (.tmp 1) rfl w.heap.size C' 26 (0, 0) _ rfl HC2.out Tryd.underlying26 rfl (by rw [HS.out]; exact info_bt) ?_)
    | (refine wpList_store_row rfl 26 (.tmp 2) (.tmp 9) rfl (w.heap.size + 1) _ C' 26 rfl rfl HC3.out (by rw [HS.out]; exact info_bt) (by rw [HS.out]; rfl) H1.out ?_)
    | fail)
  have hs := HS.out
  refine bodyPost_ret (results_cell_row rfl _ _ (w.heap.size + 1) 26 _ (0, 0) _ rfl (setRow_same HC3.out) Tryd.underlying26 rfl (by rw [hs]; exact info_bt)) rfl ⟨rfl, only_setRow HO.out (Nat.le_succ _)⟩


theorem Sp.oc {w : World} {D B : Nat} {nn : Bool} {v : Value} {s : List UInt8} (h : Sp w D nn v s) (hD : D < B) : Oc w B v s := by
  rcases h with ⟨_, rfl, rfl⟩ | ⟨_, o, c, rfl, hc, hcell⟩
  · exact Oc.nil _ _
  · exact .inr ⟨⟨D, o, none⟩, c, rfl, hc, fun j b hb => ⟨hD, by rw [Addr.add_lit]; exact hcell j b hb⟩⟩

set_option maxRecDepth 100000 in
set_option maxHeartbeats 1000000 in
theorem same_calls (w : World) (b : Bt) (A1 A2 : Option Addr) (n1 n2 c1 c2 : Nat) (h1 : Oc w w.heap.size (.slice A1 n1 c1) b.rs) (h2 : Oc w w.heap.size (.slice A2 n2 c2) b.rs) (hok : b.ok) (hl : b.rs.length + 200 ≤ lim2) :
    Calls Tryd.prog 10 #[.agg (b.cells (.slice A1 n1 c1)), .agg (b.cells (.slice A2 n2 c2))] w fun e w' => e = .returned (.bool true) ∧ Only (fun _ => False) w w' := by
  have cB1 : Hid (∀ w', Only (fun _ => False) w w' → Calls Tryd.prog 8 #[.agg #[.int .i64 b.n0, .int .i32 b.n1, .int .i32 b.n2, .int .i8 b.n3, .int .i32 b.n4, .int .i16 b.n5, .int .i32 b.n6, .int .i64 b.n7, .int .i64 b.n8, .int .i64 b.n9, .int .i16 b.n10, .int .i32 b.n11, .int .i32 b.n12, .slice A1 n1 c1]] w' (OcP b.out w')) := Lib.hid fun w' O => (bb_calls w' w.heap.size b _ O.size (h1.keep (O.kept0 (Nat.le_refl _))) hok hl).mono fun e w' h => ocP_of h
  have cB2 : Hid (∀ w', Only (fun _ => False) w w' → Calls Tryd.prog 8 #[.agg #[.int .i64 b.n0, .int .i32 b.n1, .int .i32 b.n2, .int .i8 b.n3, .int .i32 b.n4, .int .i16 b.n5, .int .i32 b.n6, .int .i64 b.n7, .int .i64 b.n8, .int .i64 b.n9, .int .i16 b.n10, .int .i32 b.n11, .int .i32 b.n12, .slice A2 n2 c2]] w' (OcP b.out w')) := Lib.hid fun w' O => (bb_calls w' w.heap.size b _ O.size (h2.keep (O.kept0 (Nat.le_refl _))) hok hl).mono fun e w' h => ocP_of h
  have hlo : b.out.length ≤ lim2 := by rw [b.out_len]; unfold lim2 at *; omega
  generalize b.out = out at cB1 cB2 hlo
  have cS := Lib.hid (fun (w1 : World) (v u : Value) (h : Oc w1 w1.heap.size v out) (k : Oc w1 w1.heap.size u out) => sp_same w1 w1.heap.size v u _ (Nat.le_refl _) h k hlo)
  obtain ⟨W0, hW0⟩ : ∃ W0, W0 = (w.alloc (.cells #[.int .i64 b.n0, .int .i32 b.n1, .int .i32 b.n2, .int .i8 b.n3, .int .i32 b.n4, .int .i16 b.n5, .int .i32 b.n6, .int .i64 b.n7, .int .i64 b.n8, .int .i64 b.n9, .int .i16 b.n10, .int .i32 b.n11, .int .i32 b.n12, .slice A1 n1 c1] 26)).alloc (.cells #[.int .i64 b.n0, .int .i32 b.n1, .int .i32 b.n2, .int .i8 b.n3, .int .i32 b.n4, .int .i16 b.n5, .int .i32 b.n6, .int .i64 b.n7, .int .i64 b.n8, .int .i64 b.n9, .int .i16 b.n10, .int .i32 b.n11, .int .i32 b.n12, .slice A2 n2 c2] 26) := ⟨_, rfl⟩
  have HO0 : Hid (Only (fun _ => False) w W0) := Lib.hid (by rw [hW0]; exact ((Only.refl _ _).alloc _).alloc _)
  have HSq : Hid (∀ w', Only (fun _ => False) W0 w' → w'.cell? ⟨w.heap.size, 0, none⟩ = some (.int .i64 b.n0) ∧ w'.cell? ⟨w.heap.size, 1, none⟩ = some (.int .i32 b.n1) ∧ w'.cell? ⟨w.heap.size, 2, none⟩ = some (.int .i32 b.n2) ∧ w'.cell? ⟨w.heap.size, 3, none⟩ = some (.int .i8 b.n3) ∧ w'.cell? ⟨w.heap.size, 4, none⟩ = some (.int .i32 b.n4) ∧ w'.cell? ⟨w.heap.size, 5, none⟩ = some (.int .i16 b.n5) ∧ w'.cell? ⟨w.heap.size, 6, none⟩ = some (.int .i32 b.n6) ∧ w'.cell? ⟨w.heap.size, 7, none⟩ = some (.int .i64 b.n7) ∧ w'.cell? ⟨w.heap.size, 8, none⟩ = some (.int .i64 b.n8) ∧ w'.cell? ⟨w.heap.size, 9, none⟩ = some (.int .i64 b.n9) ∧ w'.cell? ⟨w.heap.size, 10, none⟩ = some (.int .i16 b.n10) ∧ w'.cell? ⟨w.heap.size, 11, none⟩ = some (.int .i32 b.n11) ∧ w'.cell? ⟨w.heap.size, 12, none⟩ = some (.int .i32 b.n12) ∧ w'.cell? ⟨w.heap.size, 13, none⟩ = some (.slice A1 n1 c1) ∧ w'.cell? ⟨w.heap.size + 1, 0, none⟩ = some (.int .i64 b.n0) ∧ w'.cell? ⟨w.heap.size + 1, 1, none⟩ = some (.int .i32 b.n1) ∧ w'.cell? ⟨w.heap.size + 1, 2, none⟩ = some (.int .i32 b.n2) ∧ w'.cell? ⟨w.heap.size + 1, 3, none⟩ = some (.int .i8 b.n3) ∧ w'.cell? ⟨w.heap.size + 1, 4, none⟩ = some (.int .i32 b.n4) ∧ w'.cell? ⟨w.heap.size + 1, 5, none⟩ = some (.int .i16 b.n5) ∧ w'.cell? ⟨w.heap.size + 1, 6, none⟩ = some (.int .i32 b.n6) ∧ w'.cell? ⟨w.heap.size + 1, 7, none⟩ = some (.int .i64 b.n7) ∧ w'.cell? ⟨w.heap.size + 1, 8, none⟩ = some (.int .i64 b.n8) ∧ w'.cell? ⟨w.heap.size + 1, 9, none⟩ = some (.int .i64 b.n9) ∧ w'.cell? ⟨w.heap.size + 1, 10, none⟩ = some (.int .i16 b.n10) ∧ w'.cell? ⟨w.heap.size + 1, 11, none⟩ = some (.int .i32 b.n11) ∧ w'.cell? ⟨w.heap.size + 1, 12, none⟩ = some (.int .i32 b.n12) ∧ w'.cell? ⟨w.heap.size + 1, 13, none⟩ = some (.slice A2 n2 c2)) := Lib.hid fun w' h => by
    have hb0 : W0.heap[w.heap.size]? = some (.cells #[.int .i64 b.n0, .int .i32 b.n1, .int .i32 b.n2, .int .i8 b.n3, .int .i32 b.n4, .int .i16 b.n5, .int .i32 b.n6, .int .i64 b.n7, .int .i64 b.n8, .int .i64 b.n9, .int .i16 b.n10, .int .i32 b.n11, .int .i32 b.n12, .slice A1 n1 c1] 26 (0, 0)) := by rw [hW0, heap_alloc_old (by simp), heap_alloc_new]
    have hb1 : W0.heap[w.heap.size + 1]? = some (.cells #[.int .i64 b.n0, .int .i32 b.n1, .int .i32 b.n2, .int .i8 b.n3, .int .i32 b.n4, .int .i16 b.n5, .int .i32 b.n6, .int .i64 b.n7, .int .i64 b.n8, .int .i64 b.n9, .int .i16 b.n10, .int .i32 b.n11, .int .i32 b.n12, .slice A2 n2 c2] 26 (0, 0)) := by
      rw [hW0]
      have := heap_alloc_new (w.alloc (.cells #[.int .i64 b.n0, .int .i32 b.n1, .int .i32 b.n2, .int .i8 b.n3, .int .i32 b.n4, .int .i16 b.n5, .int .i32 b.n6, .int .i64 b.n7, .int .i64 b.n8, .int .i64 b.n9, .int .i16 b.n10, .int .i32 b.n11, .int .i32 b.n12, .slice A1 n1 c1] 26)) (.cells #[.int .i64 b.n0, .int .i32 b.n1, .int .i32 b.n2, .int .i8 b.n3, .int .i32 b.n4, .int .i16 b.n5, .int .i32 b.n6, .int .i64 b.n7, .int .i64 b.n8, .int .i64 b.n9, .int .i16 b.n10, .int .i32 b.n11, .int .i32 b.n12, .slice A2 n2 c2] 26)
      simpa using this
    have hs : W0.heap.size = w.heap.size + 2 := by rw [hW0]; simp
    rw [← h.block _ (by omega) id] at hb0
    rw [← h.block _ (by omega) id] at hb1
    exact ⟨cell_row hb0 rfl, cell_row hb0 rfl, cell_row hb0 rfl, cell_row hb0 rfl, cell_row hb0 rfl, cell_row hb0 rfl, cell_row hb0 rfl, cell_row hb0 rfl, cell_row hb0 rfl, cell_row hb0 rfl, cell_row hb0 rfl, cell_row hb0 rfl, cell_row hb0 rfl, cell_row hb0 rfl, cell_row hb1 rfl, cell_row hb1 rfl, cell_row hb1 rfl, cell_row hb1 rfl, cell_row hb1 rfl, cell_row hb1 rfl, cell_row hb1 rfl, cell_row hb1 rfl, cell_row hb1 rfl, cell_row hb1 rfl, cell_row hb1 rfl, cell_row hb1 rfl, cell_row hb1 rfl, cell_row hb1 rfl⟩
  have HD := Lib.hid ((Only.refl (fun _ => False) W0).drew)
  clear h1 h2 hok hl hlo
  show Calls _ _ #[.agg #[.int .i64 b.n0, .int .i32 b.n1, .int .i32 b.n2, .int .i8 b.n3, .int .i32 b.n4, .int .i16 b.n5, .int .i32 b.n6, .int .i64 b.n7, .int .i64 b.n8, .int .i64 b.n9, .int .i16 b.n10, .int .i32 b.n11, .int .i32 b.n12, .slice A1 n1 c1], .agg #[.int .i64 b.n0, .int .i32 b.n1, .int .i32 b.n2, .int .i8 b.n3, .int .i32 b.n4, .int .i16 b.n5, .int .i32 b.n6, .int .i64 b.n7, .int .i64 b.n8, .int .i64 b.n9, .int .i16 b.n10, .int .i32 b.n11, .int .i32 b.n12, .slice A2 n2 c2]] _ _
  go_enter Tryd.func10, Tryd.ntmps10
  go_wp2_with fail
  rw [← hW0]
  clear hW0
  go_region_held3 (fun w' => w'.cell? ⟨w.heap.size, 0, none⟩ = some (.int .i64 b.n0) ∧ w'.cell? ⟨w.heap.size, 1, none⟩ = some (.int .i32 b.n1) ∧ w'.cell? ⟨w.heap.size, 2, none⟩ = some (.int .i32 b.n2) ∧ w'.cell? ⟨w.heap.size, 3, none⟩ = some (.int .i8 b.n3) ∧ w'.cell? ⟨w.heap.size, 4, none⟩ = some (.int .i32 b.n4) ∧ w'.cell? ⟨w.heap.size, 5, none⟩ = some (.int .i16 b.n5) ∧ w'.cell? ⟨w.heap.size, 6, none⟩ = some (.int .i32 b.n6) ∧ w'.cell? ⟨w.heap.size, 7, none⟩ = some (.int .i64 b.n7) ∧ w'.cell? ⟨w.heap.size, 8, none⟩ = some (.int .i64 b.n8) ∧ w'.cell? ⟨w.heap.size, 9, none⟩ = some (.int .i64 b.n9) ∧ w'.cell? ⟨w.heap.size, 10, none⟩ = some (.int .i16 b.n10) ∧ w'.cell? ⟨w.heap.size, 11, none⟩ = some (.int .i32 b.n11) ∧ w'.cell? ⟨w.heap.size, 12, none⟩ = some (.int .i32 b.n12) ∧ w'.cell? ⟨w.heap.size, 13, none⟩ = some (.slice A1 n1 c1) ∧ w'.cell? ⟨w.heap.size + 1, 0, none⟩ = some (.int .i64 b.n0) ∧ w'.cell? ⟨w.heap.size + 1, 1, none⟩ = some (.int .i32 b.n1) ∧ w'.cell? ⟨w.heap.size + 1, 2, none⟩ = some (.int .i32 b.n2) ∧ w'.cell? ⟨w.heap.size + 1, 3, none⟩ = some (.int .i8 b.n3) ∧ w'.cell? ⟨w.heap.size + 1, 4, none⟩ = some (.int .i32 b.n4) ∧ w'.cell? ⟨w.heap.size + 1, 5, none⟩ = some (.int .i16 b.n5) ∧ w'.cell? ⟨w.heap.size + 1, 6, none⟩ = some (.int .i32 b.n6) ∧ w'.cell? ⟨w.heap.size + 1, 7, none⟩ = some (.int .i64 b.n7) ∧ w'.cell? ⟨w.heap.size + 1, 8, none⟩ = some (.int .i64 b.n8) ∧ w'.cell? ⟨w.heap.size + 1, 9, none⟩ = some (.int .i64 b.n9) ∧ w'.cell? ⟨w.heap.size + 1, 10, none⟩ = some (.int .i16 b.n10) ∧ w'.cell? ⟨w.heap.size + 1, 11, none⟩ = some (.int .i32 b.n11) ∧ w'.cell? ⟨w.heap.size + 1, 12, none⟩ = some (.int .i32 b.n12) ∧ w'.cell? ⟨w.heap.size + 1, 13, none⟩ = some (.slice A2 n2 c2))
    (first | exact HSq.out _ HD.out | exact HSq.out _ HT1.out | exact HSq.out _ HT2.out | exact HSq.out _ HT3.out)
    (first
      | (have hx := HC2.out; clear hx; go_at_call 25; refine (cS.out _ _ _ HC1b.out HC2.out).mono ?_; rintro e3 w3 ⟨rfl, h3⟩; have HT3 := Lib.hid (HT2.out.trans h3); clear h3)
      | (have hx := HC1.out; clear hx; go_at_call 8; refine (cB2.out _ (HO0.out.trans HT1.out)).mono ?_; rintro e2 w2 ⟨A4, n4, c4, rfl, h2, hO2⟩; have HT2 := Lib.hid (HT1.out.trans hO2); have HC1b := Lib.hid ((HC1.out.keep (hO2.kept0 (Nat.le_refl _))).more hO2.size); have HC2 := Lib.hid h2; clear h2 hO2)
      | (go_at_call 8; refine (cB1.out _ (HO0.out.trans HD.out)).mono ?_; rintro e1 w1 ⟨A3, n3, c3, rfl, h1, hO1⟩; have HT1 := Lib.hid (HD.out.trans hO1); have HC1 := Lib.hid h1; clear h1 hO1))
  all_goals go_wp2_with fail
  all_goals go_ret
  all_goals exact ⟨rfl, HO0.out.trans HT3.out⟩
end Go.Proofs.YtcanhgcceagplaaDoor.Kf
