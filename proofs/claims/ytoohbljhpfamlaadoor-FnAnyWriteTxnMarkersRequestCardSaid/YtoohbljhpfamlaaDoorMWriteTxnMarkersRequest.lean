/- WriteTxnMarkersRequest: its schema; what the thin package's functions over it come to. -/
import Derived.Test.YtoohbljhpfamlaaDoorMsgB
import Derived.Test.YtoohbljhpfamlaaDoorLawA
import Derived.Test.YtoohbljhpfamlaaDoorDfA
import Derived.Handy
import Derived.Test.YtoohbljhpfamlaaDoorTagC
import Derived.Test.YtoohbljhpfamlaaDoorTagG
import Derived.Test.YtoohbljhpfamlaaDoorKbT
namespace Go.Proofs.YtoohbljhpfamlaaDoor.Kf.MWriteTxnMarkersRequest
set_option linter.unusedVariables false
set_option linter.unusedSimpArgs false
set_option maxRecDepth 100000
open Go Go.RowKit

def r : R := .arrS .all 1 1 100 56 [.int .i64 0, .int .i16 0, .bool false, .slice none 0 0, .int .i32 0, .int .i8 0, .map none] (.two 103 104) none 131 103 107 (.val .all 0 0 2 (.prim .i64 128) (.val .all 1 1 29 (.prim .i16 119) (.val .all 2 2 4 (.prim .bool 132) (.arrS .all 3 3 104 48 [.string ⟨#[]⟩, .slice none 0 0, .map none] (.two 103 104) none 133 109 112 (.val .all 0 0 9 (.str2 false 108 109 110 111) (.arrV .all 1 1 110 4 [.int .i32 0] (.two 103 104) none 21 (.prim .i32 102) (.tags 2 2 55 113 .done))) (.val .all 4 4 21 (.prim .i32 102) (.val (.ge 2) 5 5 105 (.prim .i8 134) (.tags 6 6 55 113 .done))))))) (.tags 2 2 55 113 .done)
def a : A := .arrS .all 1 1 100 56 [.int .i64 0, .int .i16 0, .bool false, .slice none 0 0, .int .i32 0, .int .i8 0, .map none] none (.two false 72 73) 107 (.val .all 0 0 2 (.one (.prim .i64) 87) (.val .all 1 1 29 (.one (.prim .i16) 81) (.val .all 2 2 4 (.one (.prim .bool) 92) (.arrS .all 3 3 104 48 [.string ⟨#[]⟩, .slice none 0 0, .map none] none (.two false 72 73) 112 (.val .all 0 0 9 (.two (.str true false) (.str false false) 74 75) (.arrV .all 1 1 110 4 [.int .i32 0] none (.two false 72 73) 21 (.one (.prim .i32) 71) (.tags 2 2 55 77 76 78 .done))) (.val .all 4 4 21 (.one (.prim .i32) 71) (.val (.ge 2) 5 5 105 (.one (.prim .i8) 93) (.tags 6 6 55 77 76 78 .done))))))) (.tags 2 2 55 77 76 78 .done)
noncomputable def bR : Code := (Tryd.f91.body).getD .skip
noncomputable def bW : Code := (Tryd.f53.body).getD .skip
noncomputable def bD : Code := (Tryd.f52.body).getD .skip
def M0 : Nat := (if ((some 1) : Option Int).isSome then 11 else 10) + r.k
def M1 : Nat := Nat.max ((if ((some 1) : Option Int).isSome then 7 else 6) + a.k) 7
theorem mwa : (fun ver => a.m ver (flexOf (some 1) ver)) = MwM r (some 1) := by
  funext ver
  unfold MwM
  generalize flexOf (some 1) ver = flex
  cases flex <;> rfl
theorem codeR : Tryd.f91.body = some (gRead gn 102 44 90 29 M0 none (some 1) r bR) := by kernel_rfl
theorem codeW : Tryd.f53.body = some (gWrite hn 102 29 M1 (some 1) a bW) := by kernel_rfl
theorem codeD : Tryd.f52.body = some (gRF 91 44 22 4 bD) := by kernel_rfl
theorem sz100 : (Tryd.prog.info? 100).map (·.size) = some 1 := by kernel_rfl
theorem fa102_1 : FieldAt Tryd.prog 102 1 1 100 1 := fieldAt_of Tryd.underlying102 rfl rfl rfl sz100 (by decide)
theorem sl100 : Sl Tryd.prog 100 7 56 [.int .i64 0, .int .i16 0, .bool false, .slice none 0 0, .int .i32 0, .int .i8 0, .map none] := sl_of Tryd.underlying100 (by kernel_rfl) sz100 (by decide) rfl
theorem sz2 : (Tryd.prog.info? 2).map (·.size) = some 1 := by kernel_rfl
theorem fa107_0 : FieldAt Tryd.prog 107 0 0 2 1 := fieldAt_of Tryd.underlying107 rfl rfl rfl sz2 (by decide)
theorem sz29 : (Tryd.prog.info? 29).map (·.size) = some 1 := by kernel_rfl
theorem fa107_1 : FieldAt Tryd.prog 107 1 1 29 1 := fieldAt_of Tryd.underlying107 rfl rfl rfl sz29 (by decide)
theorem sz4 : (Tryd.prog.info? 4).map (·.size) = some 1 := by kernel_rfl
theorem fa107_2 : FieldAt Tryd.prog 107 2 2 4 1 := fieldAt_of Tryd.underlying107 rfl rfl rfl sz4 (by decide)
theorem sz104 : (Tryd.prog.info? 104).map (·.size) = some 1 := by kernel_rfl
theorem fa107_3 : FieldAt Tryd.prog 107 3 3 104 1 := fieldAt_of Tryd.underlying107 rfl rfl rfl sz104 (by decide)
theorem sl104 : Sl Tryd.prog 104 3 48 [.string ⟨#[]⟩, .slice none 0 0, .map none] := sl_of Tryd.underlying104 (by kernel_rfl) sz104 (by decide) rfl
theorem sz9 : (Tryd.prog.info? 9).map (·.size) = some 1 := by kernel_rfl
theorem fa112_0 : FieldAt Tryd.prog 112 0 0 9 1 := fieldAt_of Tryd.underlying112 rfl rfl rfl sz9 (by decide)
theorem sz110 : (Tryd.prog.info? 110).map (·.size) = some 1 := by kernel_rfl
theorem fa112_1 : FieldAt Tryd.prog 112 1 1 110 1 := fieldAt_of Tryd.underlying112 rfl rfl rfl sz110 (by decide)
theorem sl110 : Sl Tryd.prog 110 1 4 [.int .i32 0] := sl_of Tryd.underlying110 (by kernel_rfl) sz110 (by decide) rfl
theorem sz21 : (Tryd.prog.info? 21).map (·.size) = some 1 := by kernel_rfl
theorem sz55 : (Tryd.prog.info? 55).map (·.size) = some 1 := by kernel_rfl
theorem fa112_2 : FieldAt Tryd.prog 112 2 2 55 1 := fieldAt_of Tryd.underlying112 rfl rfl rfl sz55 (by decide)
theorem fa107_4 : FieldAt Tryd.prog 107 4 4 21 1 := fieldAt_of Tryd.underlying107 rfl rfl rfl sz21 (by decide)
theorem sz105 : (Tryd.prog.info? 105).map (·.size) = some 1 := by kernel_rfl
theorem fa107_5 : FieldAt Tryd.prog 107 5 5 105 1 := fieldAt_of Tryd.underlying107 rfl rfl rfl sz105 (by decide)
theorem fa107_6 : FieldAt Tryd.prog 107 6 6 55 1 := fieldAt_of Tryd.underlying107 rfl rfl rfl sz55 (by decide)
theorem fa102_2 : FieldAt Tryd.prog 102 2 2 55 1 := fieldAt_of Tryd.underlying102 rfl rfl rfl sz55 (by decide)
theorem one2 : One Tryd.prog 2 := one_of Tryd.underlying2 rfl sz2
theorem one29 : One Tryd.prog 29 := one_of Tryd.underlying29 rfl sz29
theorem one4 : One Tryd.prog 4 := one_of Tryd.underlying4 rfl sz4
theorem one9 : One Tryd.prog 9 := one_of Tryd.underlying9 rfl sz9
theorem one21 : One Tryd.prog 21 := one_of Tryd.underlying21 rfl sz21
theorem one105 : One Tryd.prog 105 := one_of Tryd.underlying105 rfl sz105
theorem fa102_0 : FieldAt Tryd.prog 102 0 0 29 1 := fieldAt_of Tryd.underlying102 rfl rfl rfl sz29 (by decide)
theorem okR : r.ok Tryd.prog true 102 1 3 := ⟨by decide, ⟨rfl, rd_calen, rd_alen⟩, fa102_1, sl100, by decide, (def_skip Tryd.func131 rfl rfl rfl), nils_ok rfl, ⟨by decide, NumC.rd (by decide) rd_int64, fun flex => fa107_0, ⟨by decide, NumC.rd (by decide) rd_int16, fun flex => fa107_1, ⟨by decide, NumC.rd (by decide) rd_bool, fun flex => fa107_2, ⟨by decide, ⟨rfl, rd_calen, rd_alen⟩, fa107_3, sl104, by decide, (def_skip Tryd.func133 rfl rfl rfl), nils_ok rfl, ⟨by decide, ⟨rfl, rd_cstring, rd_string⟩, fun flex => fa112_0, ⟨by decide, NumC.rd (by decide) rd_int32, ⟨rfl, rd_calen, rd_alen⟩, fa112_1, sl110, by decide, info_of sz21, fun flex => rfl, ⟨by decide, rfl, rd_tags, fa112_2, done_ok (by decide)⟩⟩⟩, ⟨by decide, NumC.rd (by decide) rd_int32, fun flex => fa107_4, ⟨by decide, NumC.rd (by decide) rd_int8, fun flex => fa107_5, ⟨by decide, rfl, rd_tags, fa107_6, done_ok (by decide)⟩⟩⟩⟩⟩⟩⟩, ⟨by decide, rfl, rd_tags, fa102_2, done_ok (by decide)⟩⟩
theorem okW : a.ok Tryd.prog 5 true true 102 := ⟨rfl, ⟨rfl, len_compact, len_plain⟩, fa102_1, sl100, ⟨app_i64C, fun flex => ⟨fa107_0, (.inl ⟨one2, rfl, fun _ _ => rfl⟩)⟩, ⟨app_i16C, fun flex => ⟨fa107_1, (.inl ⟨one29, rfl, fun _ _ => rfl⟩)⟩, ⟨app_boolC, fun flex => ⟨fa107_2, (.inl ⟨one4, rfl, fun _ _ => rfl⟩)⟩, ⟨rfl, ⟨rfl, len_compact, len_plain⟩, fa107_3, sl104, ⟨⟨rfl, app_cstrC, app_strC⟩, fun flex => by cases flex <;> exact ⟨fa112_0, (.inl ⟨one9, rfl, fun _ _ => rfl⟩)⟩, ⟨rfl, ⟨rfl, len_compact, len_plain⟩, fa112_1, sl110, app_i32C, fun flex => ⟨by cases flex <;> rfl, by cases flex <;> exact (.inl ⟨one21, rfl, fun _ _ => rfl⟩)⟩, ⟨rfl, fa112_2, tags_len, app_uvarint, tags_each, trivial⟩⟩⟩, ⟨app_i32C, fun flex => ⟨fa107_4, (.inl ⟨one21, rfl, fun _ _ => rfl⟩)⟩, ⟨app_i8C, fun flex => ⟨fa107_5, (.inl ⟨one105, rfl, fun _ _ => rfl⟩)⟩, ⟨rfl, fa107_6, tags_len, app_uvarint, tags_each, trivial⟩⟩⟩⟩⟩⟩⟩, ⟨rfl, fa102_2, tags_len, app_uvarint, tags_each, trivial⟩⟩
theorem msgR : MsgR Tryd.prog gn 102 44 90 29 M0 Tryd.f91.ntmps 3 3 none (some 1) r EI :=
  ⟨rd_ok, rd_completeE, und_i32, rdrT, one_i16, fa102_0, (def_skip Tryd.func90 rfl rfl rfl), fun F h => (by cases h), okR, by decide, by decide, by decide, rfl, by decide⟩
theorem msgW : MsgW Tryd.prog hn true 102 29 M1 Tryd.f53.ntmps (some 1) a := ⟨und_int, und_u32, one_i16, fa102_0, okW, rfl, by decide, by decide⟩
theorem plain_of {F : Nat} {fn : Func} (hf : Tryd.prog.funcs[F]? = some fn) (hb : fn.body.isNone = false) (hn : (fn.name == "runtime.NumGoroutine") = false) : Plain Tryd.prog F := ⟨fn, hf, hb, hn⟩
theorem agc : AgC Tryd.prog 5 22 35 52 53 1 EI none (some 1) r (MwM r (some 1)) vlM 3 :=
  mwa ▸ AgC.mk' (sl := 22) (bo := 4) msgR msgW Tryd.func91 bR codeR Tryd.results91 rfl (plain_of Tryd.func91 rfl rfl) Tryd.func52 bD codeD Tryd.results52 Tryd.ntmps52 (plain_of Tryd.func52 rfl rfl)
    Tryd.func53 bW codeW Tryd.results53 rfl (plain_of Tryd.func53 rfl rfl) Tryd.underlying22 info_u8 Tryd.underlying35 (errI_keep (L := 1 + 1) (Nat.lt_succ_self _)) (fun w h => h.2) vlM
    (fun w D b lo hi ver x bs bs0 ver0 hv hc hH => by have e : a.m ver (flexOf (some 1) ver) = MwM r (some 1) ver := congrFun mwa ver; rw [e]; exact hH)
noncomputable def bP : Code := (Tryd.f49.body).getD .skip
noncomputable def bS : Code := (Tryd.f51.body).getD .skip
noncomputable def bV : Code := (Tryd.f50.body).getD .skip
noncomputable def bX : Code := (Tryd.f21.body).getD .skip
theorem codeP : Tryd.f49.body = some (gNP 90 102 44 bP) := by kernel_rfl
theorem codeS : Tryd.f51.body = some (gSV 102 29 bS) := by kernel_rfl
theorem codeV : Tryd.f50.body = some (gK (.int .i16 0) (.int .i16 2) bV) := by kernel_rfl
theorem codeX : Tryd.f21.body = some (gMx 49 50 44 29 3 bX) := by kernel_rfl
theorem alc : Alc Tryd.prog 102 #[.int .i16 0, .slice none 0 0, .map none] := fun o a w h => by
  obtain ⟨d, op, t, p, af, g⟩ := o
  simp only at h
  subst h
  kernel_rfl
theorem new_calls (w : World) : Calls Tryd.prog 49 #[] w fun e w' => e = .returned (.pointer (some ⟨w.heap.size, 0, none⟩)) ∧ Only (fun _ => False) w w' ∧ Blk w' w.heap.size 3 ∧ ∀ q ∈ r.nils, w'.cell? ⟨w.heap.size, q, none⟩ = some (.slice none 0 0) :=
  (NP_calls (ks := 0 :: r.nils) Tryd.func49 bP codeP Tryd.results49 Tryd.ntmps49 alc rfl (def_skip Tryd.func90 rfl rfl rfl)).mono fun e w' h => ⟨h.1, h.2.1, h.2.2.1, fun q hq => (h.2.2.2 q (List.mem_cons_of_mem _ hq)).trans (nilsZ rfl q hq)⟩
theorem set_calls (w : World) (b : Nat) (n : Int) (hb : Blk w b 3) : Calls Tryd.prog 51 #[.pointer (some ⟨b, 0, none⟩), .int .i16 n] w fun e w' => e = .returned (.tuple #[]) ∧ Only (· = b) w w' ∧ Upd b 0 1 w w' ∧ w'.cell? ⟨b, 0, none⟩ = some (.int .i16 n) :=
  SV_calls Tryd.func51 bS codeS Tryd.results51 Tryd.ntmps51 fa102_0 hb (by decide)
theorem max_calls (w : World) : Calls Tryd.prog 21 #[] w fun e w' => e = .returned (.int .i64 2) ∧ Only (fun _ => False) w w' :=
  Mx_calls Tryd.func21 bX codeX Tryd.results21 Tryd.ntmps21 und_int Tryd.underlying29 (plain_of Tryd.func49 rfl rfl) (plain_of Tryd.func50 rfl rfl) ((new_calls w).mono fun e w' h => ⟨_, h.1, h.2.1⟩) fun v w' => K_calls Tryd.func50 bV codeV Tryd.results50 Tryd.ntmps50
noncomputable def bA : Code := (Tryd.f22.body).getD .skip
theorem codeA : Tryd.f22.body = some (gAgM 49 51 52 53 44 22 35 35 3 29 bA) := by kernel_rfl
/-- What impl.AgainWriteTxnMarkersRequest comes to. -/
theorem again {w : World} {ver : Int} {vs : Value} {B : Nat} {bs : List UInt8} (hB : B ≤ w.heap.size) (hv : Oc w B vs bs) (hl : bs.length ≤ lim) (hI : EI w) (hr : IntKind.i16.wrap ver = ver) (hf : Fits none (some 1) ver r (MwM r (some 1)) vlM bs) :
    Calls Tryd.prog 22 #[.int .i64 ver, vs] w (AgQ 5 none (some 1) ver r (MwM r (some 1)) vlM w bs) :=
  AgM_calls agc Tryd.func22 bA codeA Tryd.results22 Tryd.ntmps22 (plain_of Tryd.func49 rfl rfl) (plain_of Tryd.func51 rfl rfl) und_int Tryd.underlying29 (by decide) (by decide) new_calls set_calls hB hv hl hI hr hf
theorem ei_up {w w' : World} (h : EI w) (O : Only (fun _ => False) w w') : EI w' := agc.keep w w' h (O.mono fun _ _ h => h.elim)
theorem full {w : World} {vs : Value} {B : Nat} {ver : Int} {bs : List UInt8} (hB : B ≤ w.heap.size) (hv : Oc w B vs bs) (hr : IntKind.i16.wrap ver = ver) (h : Full (r.m ver (flexOf (some 1) ver)).w bs) (hl : bs.length ≤ lim) (hI : EI w) : Calls Tryd.prog 22 #[.int .i64 ver, vs] w (FullP 5 bs w) :=
  have k := fullM h (by unfold lim at hl; unfold lim2; omega)
  (again hB hv hl hI hr k.1).mono fun e w' h => fullP_of (k.2 h)
theorem cut {w : World} {vs : Value} {B : Nat} {ver : Int} {q s : List UInt8} (hB : B ≤ w.heap.size) (hv : Oc w B vs q) (hr : IntKind.i16.wrap ver = ver) (h : Full (r.m ver (flexOf (some 1) ver)).w (q ++ s)) (hs : s ≠ []) (hl : q.length ≤ lim) (hI : EI w) : Calls Tryd.prog 22 #[.int .i64 ver, vs] w (CutP w) :=
  have k := cutM h hs hl
  (again hB hv hl hI hr k.1).mono fun e w' h => k.2 h
theorem any2 {ver : Int} {bs : List UInt8} (hr : IntKind.i16.wrap ver = ver) (hok : (r.m ver (flexOf (some 1) ver)).w.ok = true) (hl : bs.length ≤ 32767) :
    (∃ out, out.length ≤ bs.length ∧ Full (r.m ver (flexOf (some 1) ver)).w out ∧ ∀ {w : World} {vs : Value} {B : Nat}, B ≤ w.heap.size → Oc w B vs bs → EI w → Calls Tryd.prog 22 #[.int .i64 ver, vs] w (FullP 5 out w)) ∨
      ∀ {w : World} {vs : Value} {B : Nat}, B ≤ w.heap.size → Oc w B vs bs → EI w → Calls Tryd.prog 22 #[.int .i64 ver, vs] w (CutP w) := by
  have hf := (anyM hok hl).1
  have hll : bs.length ≤ lim := by unfold lim; omega
  rcases anyM2 hok hl with ⟨out, h1, h4, h5⟩ | h
  · exact .inl ⟨out, h1, h4, fun hB hv hI => (again hB hv hll hI hr hf).mono fun e w' h => h5 h⟩
  · exact .inr fun hB hv hI => (again hB hv hll hI hr hf).mono fun e w' hh => h hh
end Go.Proofs.YtoohbljhpfamlaaDoor.Kf.MWriteTxnMarkersRequest
