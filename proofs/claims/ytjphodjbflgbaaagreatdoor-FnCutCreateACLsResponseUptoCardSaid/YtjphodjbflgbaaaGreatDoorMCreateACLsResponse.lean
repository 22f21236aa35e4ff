/- CreateACLsResponse: its schema; what the thin package's functions over it come to. -/
import Derived.Test.YtjphodjbflgbaaaGreatDoorMsgB
import Derived.Test.YtjphodjbflgbaaaGreatDoorLawA
import Derived.Test.YtjphodjbflgbaaaGreatDoorDfA
import Derived.Handy
import Derived.Test.YtjphodjbflgbaaaGreatDoorTagC
import Derived.Test.YtjphodjbflgbaaaGreatDoorTagG
import Derived.Test.YtjphodjbflgbaaaGreatDoorKbT
namespace Go.Proofs.YtjphodjbflgbaaaGreatDoor.Kf.MCreateACLsResponse
set_option linter.unusedVariables false
set_option linter.unusedSimpArgs false
set_option maxRecDepth 100000
open Go Go.RowKit

def r : R := .val .all 1 1 21 (.prim .i32 123) (.arrS .all 2 2 106 24 [.int .i16 0, .pointer none, .map none] (.two 114 115) none 133 109 112 (.val .all 0 0 42 (.prim .i16 113) (.val .all 1 1 110 (.str3 true 134 135 136 137) (.tags 2 2 72 124 .done))) (.tags 3 3 72 124 .done))
def a : A := .val .all 1 1 21 (.one (.prim .i32) 86) (.arrS .all 2 2 106 24 [.int .i16 0, .pointer none, .map none] none (.two false 82 83) 112 (.val .all 0 0 42 (.one (.prim .i16) 81) (.val .all 1 1 110 (.two (.str true true) (.str false true) 97 98) (.tags 2 2 72 88 87 89 .done))) (.tags 3 3 72 88 87 89 .done))
noncomputable def bR : Code := (Tryz.f96.body).getD .skip
noncomputable def bW : Code := (Tryz.f56.body).getD .skip
noncomputable def bD : Code := (Tryz.f55.body).getD .skip
def M0 : Nat := (if ((some 2) : Option Int).isSome then 11 else 10) + r.k
def M1 : Nat := Nat.max ((if ((some 2) : Option Int).isSome then 7 else 6) + a.k) 7
theorem mwa : (fun ver => a.m ver (flexOf (some 2) ver)) = MwM r (some 2) := by
  funext ver
  unfold MwM
  generalize flexOf (some 2) ver = flex
  cases flex <;> rfl
theorem codeR : Tryz.f96.body = some (gRead gn 108 59 95 42 M0 none (some 2) r bR) := by kernel_rfl
theorem codeW : Tryz.f56.body = some (gWrite hn 108 42 M1 (some 2) a bW) := by kernel_rfl
theorem codeD : Tryz.f55.body = some (gRF 96 59 22 4 bD) := by kernel_rfl
theorem sz21 : (Tryz.prog.info? 21).map (·.size) = some 1 := by kernel_rfl
theorem fa108_1 : FieldAt Tryz.prog 108 1 1 21 1 := fieldAt_of Tryz.underlying108 rfl rfl rfl sz21 (by decide)
theorem sz106 : (Tryz.prog.info? 106).map (·.size) = some 1 := by kernel_rfl
theorem fa108_2 : FieldAt Tryz.prog 108 2 2 106 1 := fieldAt_of Tryz.underlying108 rfl rfl rfl sz106 (by decide)
theorem sl106 : Sl Tryz.prog 106 3 24 [.int .i16 0, .pointer none, .map none] := sl_of Tryz.underlying106 (by kernel_rfl) sz106 (by decide) rfl
theorem sz42 : (Tryz.prog.info? 42).map (·.size) = some 1 := by kernel_rfl
theorem fa112_0 : FieldAt Tryz.prog 112 0 0 42 1 := fieldAt_of Tryz.underlying112 rfl rfl rfl sz42 (by decide)
theorem sz110 : (Tryz.prog.info? 110).map (·.size) = some 1 := by kernel_rfl
theorem fa112_1 : FieldAt Tryz.prog 112 1 1 110 1 := fieldAt_of Tryz.underlying112 rfl rfl rfl sz110 (by decide)
theorem sz72 : (Tryz.prog.info? 72).map (·.size) = some 1 := by kernel_rfl
theorem fa112_2 : FieldAt Tryz.prog 112 2 2 72 1 := fieldAt_of Tryz.underlying112 rfl rfl rfl sz72 (by decide)
theorem fa108_3 : FieldAt Tryz.prog 108 3 3 72 1 := fieldAt_of Tryz.underlying108 rfl rfl rfl sz72 (by decide)
theorem one21 : One Tryz.prog 21 := one_of Tryz.underlying21 rfl sz21
theorem one42 : One Tryz.prog 42 := one_of Tryz.underlying42 rfl sz42
theorem one110 : One Tryz.prog 110 := one_of Tryz.underlying110 rfl sz110
theorem fa108_0 : FieldAt Tryz.prog 108 0 0 42 1 := fieldAt_of Tryz.underlying108 rfl rfl rfl sz42 (by decide)
theorem okR : r.ok Tryz.prog true 108 1 4 := ⟨by decide, NumC.rd (by decide) rd_int32, fun flex => fa108_1, ⟨by decide, ⟨rfl, rd_calen, rd_alen⟩, fa108_2, sl106, by decide, (def_skip Tryz.func133 rfl rfl rfl), nils_ok rfl, ⟨by decide, NumC.rd (by decide) rd_int16, fun flex => fa112_0, ⟨by decide, ⟨rfl, rd_cnstring, rd_nstring⟩, fun flex => fa112_1, ⟨by decide, rfl, rd_tags, fa112_2, done_ok (by decide)⟩⟩⟩, ⟨by decide, rfl, rd_tags, fa108_3, done_ok (by decide)⟩⟩⟩
theorem okW : a.ok Tryz.prog 5 true true 108 := ⟨app_i32C, fun flex => ⟨fa108_1, (.inl ⟨one21, rfl, fun _ _ => rfl⟩)⟩, ⟨rfl, ⟨rfl, len_compact, len_plain⟩, fa108_2, sl106, ⟨app_i16C, fun flex => ⟨fa112_0, (.inl ⟨one42, rfl, fun _ _ => rfl⟩)⟩, ⟨⟨rfl, app_cnstrC, app_nstrC⟩, fun flex => by cases flex <;> exact ⟨fa112_1, (.inl ⟨one110, rfl, fun _ _ => rfl⟩)⟩, ⟨rfl, fa112_2, tags_len, app_uvarint, tags_each, trivial⟩⟩⟩, ⟨rfl, fa108_3, tags_len, app_uvarint, tags_each, trivial⟩⟩⟩
theorem msgR : MsgR Tryz.prog gn 108 59 95 42 M0 Tryz.f96.ntmps 4 4 none (some 2) r EI :=
  ⟨rd_ok, rd_completeE, und_i32, rdrT, one_i16, fa108_0, (def_skip Tryz.func95 rfl rfl rfl), fun F h => (by cases h), okR, by decide, by decide, by decide, rfl, by decide⟩
theorem msgW : MsgW Tryz.prog hn true 108 42 M1 Tryz.f56.ntmps (some 2) a := ⟨und_int, und_u32, one_i16, fa108_0, okW, rfl, by decide, by decide⟩
theorem plain_of {F : Nat} {fn : Func} (hf : Tryz.prog.funcs[F]? = some fn) (hb : fn.body.isNone = false) (hn : (fn.name == "runtime.NumGoroutine") = false) : Plain Tryz.prog F := ⟨fn, hf, hb, hn⟩
theorem agc : AgC Tryz.prog 5 22 52 55 56 1 EI none (some 2) r (MwM r (some 2)) vlM 4 :=
  mwa ▸ AgC.mk' (sl := 22) (bo := 4) msgR msgW Tryz.func96 bR codeR Tryz.results96 rfl (plain_of Tryz.func96 rfl rfl) Tryz.func55 bD codeD Tryz.results55 Tryz.ntmps55 (plain_of Tryz.func55 rfl rfl)
    Tryz.func56 bW codeW Tryz.results56 rfl (plain_of Tryz.func56 rfl rfl) Tryz.underlying22 info_u8 Tryz.underlying52 (errI_keep (L := 1 + 1) (Nat.lt_succ_self _)) (fun w h => h.2) vlM
    (fun w D b lo hi ver x bs bs0 ver0 hv hc hH => by have e : a.m ver (flexOf (some 2) ver) = MwM r (some 2) ver := congrFun mwa ver; rw [e]; exact hH)
noncomputable def bP : Code := (Tryz.f51.body).getD .skip
noncomputable def bS : Code := (Tryz.f54.body).getD .skip
noncomputable def bV : Code := (Tryz.f52.body).getD .skip
noncomputable def bX : Code := (Tryz.f22.body).getD .skip
theorem codeP : Tryz.f51.body = some (gNP 95 108 59 bP) := by kernel_rfl
theorem codeS : Tryz.f54.body = some (gSV 108 42 bS) := by kernel_rfl
theorem codeV : Tryz.f52.body = some (gK (.int .i16 0) (.int .i16 3) bV) := by kernel_rfl
theorem codeX : Tryz.f22.body = some (gMx 51 52 59 42 3 bX) := by kernel_rfl
theorem alc : Alc Tryz.prog 108 #[.int .i16 0, .int .i32 0, .slice none 0 0, .map none] := fun o a w h => by
  obtain ⟨d, op, t, p, af, g⟩ := o
  simp only at h
  subst h
  kernel_rfl
theorem new_calls (w : World) : Calls Tryz.prog 51 #[] w fun e w' => e = .returned (.pointer (some ⟨w.heap.size, 0, none⟩)) ∧ Only (fun _ => False) w w' ∧ Blk w' w.heap.size 4 ∧ ∀ q ∈ r.nils, w'.cell? ⟨w.heap.size, q, none⟩ = some (.slice none 0 0) :=
  (NP_calls (ks := 0 :: r.nils) Tryz.func51 bP codeP Tryz.results51 Tryz.ntmps51 alc rfl (def_skip Tryz.func95 rfl rfl rfl)).mono fun e w' h => ⟨h.1, h.2.1, h.2.2.1, fun q hq => (h.2.2.2 q (List.mem_cons_of_mem _ hq)).trans (nilsZ rfl q hq)⟩
theorem set_calls (w : World) (b : Nat) (n : Int) (hb : Blk w b 4) : Calls Tryz.prog 54 #[.pointer (some ⟨b, 0, none⟩), .int .i16 n] w fun e w' => e = .returned (.tuple #[]) ∧ Only (· = b) w w' ∧ Upd b 0 1 w w' ∧ w'.cell? ⟨b, 0, none⟩ = some (.int .i16 n) :=
  SV_calls Tryz.func54 bS codeS Tryz.results54 Tryz.ntmps54 fa108_0 hb (by decide)
theorem max_calls (w : World) : Calls Tryz.prog 22 #[] w fun e w' => e = .returned (.int .i64 3) ∧ Only (fun _ => False) w w' :=
  Mx_calls Tryz.func22 bX codeX Tryz.results22 Tryz.ntmps22 und_int Tryz.underlying42 (plain_of Tryz.func51 rfl rfl) (plain_of Tryz.func52 rfl rfl) ((new_calls w).mono fun e w' h => ⟨_, h.1, h.2.1⟩) fun v w' => K_calls Tryz.func52 bV codeV Tryz.results52 Tryz.ntmps52
noncomputable def bA : Code := (Tryz.f24.body).getD .skip
theorem codeA : Tryz.f24.body = some (gAgM 51 54 55 56 59 22 52 52 3 42 bA) := by kernel_rfl
/-- What impl.AgainCreateACLsResponse comes to. -/
theorem again {w : World} {ver : Int} {vs : Value} {B : Nat} {bs : List UInt8} (hB : B ≤ w.heap.size) (hv : Oc w B vs bs) (hl : bs.length ≤ lim) (hI : EI w) (hr : IntKind.i16.wrap ver = ver) (hf : Fits none (some 2) ver r (MwM r (some 2)) vlM bs) :
    Calls Tryz.prog 24 #[.int .i64 ver, vs] w (AgQ 5 none (some 2) ver r (MwM r (some 2)) vlM w bs) :=
  AgM_calls agc Tryz.func24 bA codeA Tryz.results24 Tryz.ntmps24 (plain_of Tryz.func51 rfl rfl) (plain_of Tryz.func54 rfl rfl) und_int Tryz.underlying42 (by decide) (by decide) new_calls set_calls hB hv hl hI hr hf
theorem ei_up {w w' : World} (h : EI w) (O : Only (fun _ => False) w w') : EI w' := agc.keep w w' h (O.mono fun _ _ h => h.elim)
theorem full {w : World} {vs : Value} {B : Nat} {ver : Int} {bs : List UInt8} (hB : B ≤ w.heap.size) (hv : Oc w B vs bs) (hr : IntKind.i16.wrap ver = ver) (h : Full (r.m ver (flexOf (some 2) ver)).w bs) (hl : bs.length ≤ lim) (hI : EI w) : Calls Tryz.prog 24 #[.int .i64 ver, vs] w (FullP 5 bs w) :=
  have k := fullM h (by unfold lim at hl; unfold lim2; omega)
  (again hB hv hl hI hr k.1).mono fun e w' h => fullP_of (k.2 h)
theorem cut {w : World} {vs : Value} {B : Nat} {ver : Int} {q s : List UInt8} (hB : B ≤ w.heap.size) (hv : Oc w B vs q) (hr : IntKind.i16.wrap ver = ver) (h : Full (r.m ver (flexOf (some 2) ver)).w (q ++ s)) (hs : s ≠ []) (hl : q.length ≤ lim) (hI : EI w) : Calls Tryz.prog 24 #[.int .i64 ver, vs] w (CutP w) :=
  have k := cutM h hs hl
  (again hB hv hl hI hr k.1).mono fun e w' h => k.2 h
theorem any2 {ver : Int} {bs : List UInt8} (hr : IntKind.i16.wrap ver = ver) (hok : (r.m ver (flexOf (some 2) ver)).w.ok = true) (hl : bs.length ≤ 32767) :
    (∃ out, out.length ≤ bs.length ∧ Full (r.m ver (flexOf (some 2) ver)).w out ∧ ∀ {w : World} {vs : Value} {B : Nat}, B ≤ w.heap.size → Oc w B vs bs → EI w → Calls Tryz.prog 24 #[.int .i64 ver, vs] w (FullP 5 out w)) ∨
      ∀ {w : World} {vs : Value} {B : Nat}, B ≤ w.heap.size → Oc w B vs bs → EI w → Calls Tryz.prog 24 #[.int .i64 ver, vs] w (CutP w) := by
  have hf := (anyM hok hl).1
  have hll : bs.length ≤ lim := by unfold lim; omega
  rcases anyM2 hok hl with ⟨out, h1, h4, h5⟩ | h
  · exact .inl ⟨out, h1, h4, fun hB hv hI => (again hB hv hll hI hr hf).mono fun e w' h => h5 h⟩
  · exact .inr fun hB hv hI => (again hB hv hll hI hr hf).mono fun e w' hh => h hh
end Go.Proofs.YtjphodjbflgbaaaGreatDoor.Kf.MCreateACLsResponse
