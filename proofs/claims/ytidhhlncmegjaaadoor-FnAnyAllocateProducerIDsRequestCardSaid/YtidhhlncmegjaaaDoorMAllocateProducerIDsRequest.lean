/- AllocateProducerIDsRequest: its schema; what the thin package's functions over it come to. -/
import Derived.Test.YtidhhlncmegjaaaDoorMsgB
import Derived.Test.YtidhhlncmegjaaaDoorLawA
import Derived.Test.YtidhhlncmegjaaaDoorDfA
import Derived.Handy
import Derived.Test.YtidhhlncmegjaaaDoorTagC
import Derived.Test.YtidhhlncmegjaaaDoorTagG
import Derived.Test.YtidhhlncmegjaaaDoorKbT
namespace Go.Proofs.YtidhhlncmegjaaaDoor.Kf.MAllocateProducerIDsRequest
set_option linter.unusedVariables false
set_option linter.unusedSimpArgs false
set_option maxRecDepth 100000
open Go Go.RowKit

def r : R := .val .all 1 1 21 (.prim .i32 138) (.val .all 2 2 2 (.prim .i64 154) (.tags 3 3 97 150 .done))
def a : A := .val .all 1 1 21 (.one (.prim .i32) 92) (.val .all 2 2 2 (.one (.prim .i64) 112) (.tags 3 3 97 106 105 107 .done))
noncomputable def bR : Code := (Tryd.f111.body).getD .skip
noncomputable def bW : Code := (Tryd.f59.body).getD .skip
noncomputable def bD : Code := (Tryd.f58.body).getD .skip
def M0 : Nat := (if ((some 0) : Option Int).isSome then 11 else 10) + r.k
def M1 : Nat := Nat.max ((if ((some 0) : Option Int).isSome then 7 else 6) + a.k) 7
theorem mwa : (fun ver => a.m ver (flexOf (some 0) ver)) = MwM r (some 0) := by
  funext ver
  unfold MwM
  generalize flexOf (some 0) ver = flex
  cases flex <;> rfl
theorem codeR : Tryd.f111.body = some (gRead gn 113 66 110 48 M0 none (some 0) r bR) := by kernel_rfl
theorem codeW : Tryd.f59.body = some (gWrite hn 113 48 M1 (some 0) a bW) := by kernel_rfl
theorem codeD : Tryd.f58.body = some (gRF 111 66 22 4 bD) := by kernel_rfl
theorem sz21 : (Tryd.prog.info? 21).map (·.size) = some 1 := by kernel_rfl
theorem fa113_1 : FieldAt Tryd.prog 113 1 1 21 1 := fieldAt_of Tryd.underlying113 rfl rfl rfl sz21 (by decide)
theorem sz2 : (Tryd.prog.info? 2).map (·.size) = some 1 := by kernel_rfl
theorem fa113_2 : FieldAt Tryd.prog 113 2 2 2 1 := fieldAt_of Tryd.underlying113 rfl rfl rfl sz2 (by decide)
theorem sz97 : (Tryd.prog.info? 97).map (·.size) = some 1 := by kernel_rfl
theorem fa113_3 : FieldAt Tryd.prog 113 3 3 97 1 := fieldAt_of Tryd.underlying113 rfl rfl rfl sz97 (by decide)
theorem one21 : One Tryd.prog 21 := one_of Tryd.underlying21 rfl sz21
theorem one2 : One Tryd.prog 2 := one_of Tryd.underlying2 rfl sz2
theorem sz48 : (Tryd.prog.info? 48).map (·.size) = some 1 := by kernel_rfl
theorem fa113_0 : FieldAt Tryd.prog 113 0 0 48 1 := fieldAt_of Tryd.underlying113 rfl rfl rfl sz48 (by decide)
def dl_AllocateProducerIDsRequest : List DS := [⟨2, 2, 2, .int .i64 (-1)⟩]
noncomputable def bDf_AllocateProducerIDsRequest : Code := (Tryd.f110.body).getD .skip
theorem def_AllocateProducerIDsRequest : DefC Tryd.prog 110 4 [0] :=
  def_set (T := 113) (l := dl_AllocateProducerIDsRequest) Tryd.func110 bDf_AllocateProducerIDsRequest (by kernel_rfl) Tryd.results110 Tryd.ntmps110 (by decide) rfl (fun x hx => by
    simp only [dl_AllocateProducerIDsRequest, List.mem_cons, List.not_mem_nil, or_false] at hx
    subst hx; exact ⟨fa113_2, rfl, rfl, by decide, by decide⟩)
theorem okR : r.ok Tryd.prog true 113 1 4 := ⟨by decide, NumC.rd (by decide) rd_int32, fun flex => fa113_1, ⟨by decide, NumC.rd (by decide) rd_int64, fun flex => fa113_2, ⟨by decide, rfl, rd_tags, fa113_3, done_ok (by decide)⟩⟩⟩
theorem okW : a.ok Tryd.prog 5 true true 113 := ⟨app_i32C, fun flex => ⟨fa113_1, (.inl ⟨one21, rfl, fun _ _ => rfl⟩)⟩, ⟨app_i64C, fun flex => ⟨fa113_2, (.inl ⟨one2, rfl, fun _ _ => rfl⟩)⟩, ⟨rfl, fa113_3, tags_len, app_uvarint, tags_each, trivial⟩⟩⟩
theorem msgR : MsgR Tryd.prog gn 113 66 110 48 M0 Tryd.f111.ntmps 4 4 none (some 0) r EI :=
  ⟨rd_ok, rd_completeE, und_i32, rdrT, one_i16, fa113_0, def_AllocateProducerIDsRequest, fun F h => (by cases h), okR, by decide, by decide, by decide, rfl, by decide⟩
theorem msgW : MsgW Tryd.prog hn true 113 48 M1 Tryd.f59.ntmps (some 0) a := ⟨und_int, und_u32, one_i16, fa113_0, okW, rfl, by decide, by decide⟩
theorem plain_of {F : Nat} {fn : Func} (hf : Tryd.prog.funcs[F]? = some fn) (hb : fn.body.isNone = false) (hn : (fn.name == "runtime.NumGoroutine") = false) : Plain Tryd.prog F := ⟨fn, hf, hb, hn⟩
theorem agc : AgC Tryd.prog 5 22 56 58 59 1 EI none (some 0) r (MwM r (some 0)) vlM 4 :=
  mwa ▸ AgC.mk' (sl := 22) (bo := 4) msgR msgW Tryd.func111 bR codeR Tryd.results111 rfl (plain_of Tryd.func111 rfl rfl) Tryd.func58 bD codeD Tryd.results58 Tryd.ntmps58 (plain_of Tryd.func58 rfl rfl)
    Tryd.func59 bW codeW Tryd.results59 rfl (plain_of Tryd.func59 rfl rfl) Tryd.underlying22 info_u8 Tryd.underlying56 (errI_keep (L := 1 + 1) (Nat.lt_succ_self _)) (fun w h => h.2) vlM
    (fun w D b lo hi ver x bs bs0 ver0 hv hc hH => by have e : a.m ver (flexOf (some 0) ver) = MwM r (some 0) ver := congrFun mwa ver; rw [e]; exact hH)
noncomputable def bP : Code := (Tryd.f55.body).getD .skip
noncomputable def bS : Code := (Tryd.f57.body).getD .skip
noncomputable def bV : Code := (Tryd.f56.body).getD .skip
noncomputable def bX : Code := (Tryd.f25.body).getD .skip
theorem codeP : Tryd.f55.body = some (gNP 110 113 66 bP) := by kernel_rfl
theorem codeS : Tryd.f57.body = some (gSV 113 48 bS) := by kernel_rfl
theorem codeV : Tryd.f56.body = some (gK (.int .i16 0) (.int .i16 0) bV) := by kernel_rfl
theorem codeX : Tryd.f25.body = some (gMx 55 56 66 48 3 bX) := by kernel_rfl
theorem alc : Alc Tryd.prog 113 #[.int .i16 0, .int .i32 0, .int .i64 0, .map none] := fun o a w h => by
  obtain ⟨d, op, t, p, af, g⟩ := o
  simp only at h
  subst h
  kernel_rfl
theorem new_calls (w : World) : Calls Tryd.prog 55 #[] w fun e w' => e = .returned (.pointer (some ⟨w.heap.size, 0, none⟩)) ∧ Only (fun _ => False) w w' ∧ Blk w' w.heap.size 4 ∧ ∀ q ∈ r.nils, w'.cell? ⟨w.heap.size, q, none⟩ = some (.slice none 0 0) :=
  (NP_calls (ks := 0 :: r.nils) Tryd.func55 bP codeP Tryd.results55 Tryd.ntmps55 alc rfl def_AllocateProducerIDsRequest).mono fun e w' h => ⟨h.1, h.2.1, h.2.2.1, fun q hq => (h.2.2.2 q (List.mem_cons_of_mem _ hq)).trans (nilsZ rfl q hq)⟩
theorem set_calls (w : World) (b : Nat) (n : Int) (hb : Blk w b 4) : Calls Tryd.prog 57 #[.pointer (some ⟨b, 0, none⟩), .int .i16 n] w fun e w' => e = .returned (.tuple #[]) ∧ Only (· = b) w w' ∧ Upd b 0 1 w w' ∧ w'.cell? ⟨b, 0, none⟩ = some (.int .i16 n) :=
  SV_calls Tryd.func57 bS codeS Tryd.results57 Tryd.ntmps57 fa113_0 hb (by decide)
theorem max_calls (w : World) : Calls Tryd.prog 25 #[] w fun e w' => e = .returned (.int .i64 0) ∧ Only (fun _ => False) w w' :=
  Mx_calls Tryd.func25 bX codeX Tryd.results25 Tryd.ntmps25 und_int Tryd.underlying48 (plain_of Tryd.func55 rfl rfl) (plain_of Tryd.func56 rfl rfl) ((new_calls w).mono fun e w' h => ⟨_, h.1, h.2.1⟩) fun v w' => K_calls Tryd.func56 bV codeV Tryd.results56 Tryd.ntmps56
noncomputable def bA : Code := (Tryd.f26.body).getD .skip
theorem codeA : Tryd.f26.body = some (gAgM 55 57 58 59 66 22 56 56 3 48 bA) := by kernel_rfl
/-- What impl.AgainAllocateProducerIDsRequest comes to. -/
theorem again {w : World} {ver : Int} {vs : Value} {B : Nat} {bs : List UInt8} (hB : B ≤ w.heap.size) (hv : Oc w B vs bs) (hl : bs.length ≤ lim) (hI : EI w) (hr : IntKind.i16.wrap ver = ver) (hf : Fits none (some 0) ver r (MwM r (some 0)) vlM bs) :
    Calls Tryd.prog 26 #[.int .i64 ver, vs] w (AgQ 5 none (some 0) ver r (MwM r (some 0)) vlM w bs) :=
  AgM_calls agc Tryd.func26 bA codeA Tryd.results26 Tryd.ntmps26 (plain_of Tryd.func55 rfl rfl) (plain_of Tryd.func57 rfl rfl) und_int Tryd.underlying48 (by decide) (by decide) new_calls set_calls hB hv hl hI hr hf
theorem ei_up {w w' : World} (h : EI w) (O : Only (fun _ => False) w w') : EI w' := agc.keep w w' h (O.mono fun _ _ h => h.elim)
theorem full {w : World} {vs : Value} {B : Nat} {ver : Int} {bs : List UInt8} (hB : B ≤ w.heap.size) (hv : Oc w B vs bs) (hr : IntKind.i16.wrap ver = ver) (h : Full (r.m ver (flexOf (some 0) ver)).w bs) (hl : bs.length ≤ lim) (hI : EI w) : Calls Tryd.prog 26 #[.int .i64 ver, vs] w (FullP 5 bs w) :=
  have k := fullM h (by unfold lim at hl; unfold lim2; omega)
  (again hB hv hl hI hr k.1).mono fun e w' h => fullP_of (k.2 h)
theorem cut {w : World} {vs : Value} {B : Nat} {ver : Int} {q s : List UInt8} (hB : B ≤ w.heap.size) (hv : Oc w B vs q) (hr : IntKind.i16.wrap ver = ver) (h : Full (r.m ver (flexOf (some 0) ver)).w (q ++ s)) (hs : s ≠ []) (hl : q.length ≤ lim) (hI : EI w) : Calls Tryd.prog 26 #[.int .i64 ver, vs] w (CutP w) :=
  have k := cutM h hs hl
  (again hB hv hl hI hr k.1).mono fun e w' h => k.2 h
theorem any2 {ver : Int} {bs : List UInt8} (hr : IntKind.i16.wrap ver = ver) (hok : (r.m ver (flexOf (some 0) ver)).w.ok = true) (hl : bs.length ≤ 32767) :
    (∃ out, out.length ≤ bs.length ∧ Full (r.m ver (flexOf (some 0) ver)).w out ∧ ∀ {w : World} {vs : Value} {B : Nat}, B ≤ w.heap.size → Oc w B vs bs → EI w → Calls Tryd.prog 26 #[.int .i64 ver, vs] w (FullP 5 out w)) ∨
      ∀ {w : World} {vs : Value} {B : Nat}, B ≤ w.heap.size → Oc w B vs bs → EI w → Calls Tryd.prog 26 #[.int .i64 ver, vs] w (CutP w) := by
  have hf := (anyM hok hl).1
  have hll : bs.length ≤ lim := by unfold lim; omega
  rcases anyM2 hok hl with ⟨out, h1, h4, h5⟩ | h
  · exact .inl ⟨out, h1, h4, fun hB hv hI => (again hB hv hll hI hr hf).mono fun e w' h => h5 h⟩
  · exact .inr fun hB hv hI => (again hB hv hll hI hr hf).mono fun e w' hh => h hh
end Go.Proofs.YtidhhlncmegjaaaDoor.Kf.MAllocateProducerIDsRequest
