/- GetTelemetrySubscriptionsRequest: its schema; what the thin package's functions over it come to. -/
import Derived.Test.YtjphodjbflgbaaaDoorMsgB
import Derived.Test.YtjphodjbflgbaaaDoorLawA
import Derived.Test.YtjphodjbflgbaaaDoorDfA
import Derived.Handy
import Derived.Test.YtjphodjbflgbaaaDoorTagC
import Derived.Test.YtjphodjbflgbaaaDoorTagG
import Derived.Test.YtjphodjbflgbaaaDoorKbT
import Derived.Test.YtjphodjbflgbaaaDoorKbV
namespace Go.Proofs.YtjphodjbflgbaaaDoor.Kf.MGetTelemetrySubscriptionsRequest
set_option linter.unusedVariables false
set_option linter.unusedSimpArgs false
set_option maxRecDepth 100000
open Go Go.RowKit

def r : R := .val .all 1 1 63 (.uid 78 63) (.tags 2 17 66 79 .done)
def a : A := .val .all 1 1 63 (.uid 53 63) (.tags 2 17 66 55 54 56 .done)
noncomputable def bR : Code := (Tryd.f52.body).getD .skip
noncomputable def bW : Code := (Tryd.f26.body).getD .skip
noncomputable def bD : Code := (Tryd.f25.body).getD .skip
def M0 : Nat := (if ((some 0) : Option Int).isSome then 11 else 10) + r.k
def M1 : Nat := Nat.max ((if ((some 0) : Option Int).isSome then 7 else 6) + a.k) 7
theorem mwa : (fun ver => a.m ver (flexOf (some 0) ver)) = MwM r (some 0) := by
  funext ver
  unfold MwM
  generalize flexOf (some 0) ver = flex
  cases flex <;> rfl
theorem codeR : Tryd.f52.body = some (gRead gn 68 42 43 41 M0 none (some 0) r bR) := by kernel_rfl
theorem codeW : Tryd.f26.body = some (gWrite hn 68 41 M1 (some 0) a bW) := by kernel_rfl
theorem codeD : Tryd.f25.body = some (gRF 52 42 22 4 bD) := by kernel_rfl
theorem sz63 : (Tryd.prog.info? 63).map (·.size) = some 16 := by kernel_rfl
theorem fa68_1 : FieldAt Tryd.prog 68 1 1 63 16 := fieldAt_of Tryd.underlying68 rfl rfl rfl sz63 (by decide)
theorem bx16 : BxT Tryd.prog 63 16 where
  alc := ⟨#[.int .u8 0, .int .u8 0, .int .u8 0, .int .u8 0, .int .u8 0, .int .u8 0, .int .u8 0, .int .u8 0, .int .u8 0, .int .u8 0, .int .u8 0, .int .u8 0, .int .u8 0, .int .u8 0, .int .u8 0, .int .u8 0], rfl, fun o a w h => by
    obtain ⟨d, op, t, p, af, g⟩ := o
    simp only at h
    subst h
    kernel_rfl⟩
  sz := info_of sz63
  desc := ⟨_, Tryd.underlying63, rfl⟩
theorem sz66 : (Tryd.prog.info? 66).map (·.size) = some 1 := by kernel_rfl
theorem fa68_2 : FieldAt Tryd.prog 68 2 17 66 1 := fieldAt_of Tryd.underlying68 rfl rfl rfl sz66 (by decide)
theorem sz41 : (Tryd.prog.info? 41).map (·.size) = some 1 := by kernel_rfl
theorem fa68_0 : FieldAt Tryd.prog 68 0 0 41 1 := fieldAt_of Tryd.underlying68 rfl rfl rfl sz41 (by decide)
theorem okR : r.ok Tryd.prog true 68 1 18 := ⟨by decide, ⟨rd_uuid, bx16⟩, fun flex => fa68_1, ⟨by decide, rfl, rd_tags, fa68_2, done_ok (by decide)⟩⟩
theorem okW : a.ok Tryd.prog 5 true true 68 := ⟨⟨app_uuidC, bx16⟩, fun flex => ⟨fa68_1, (.inr ⟨⟨⟨_, Tryd.underlying63, rfl⟩, info_of sz63⟩, fun _ => rfl⟩)⟩, ⟨rfl, fa68_2, tags_len, app_uvarint, tags_each, trivial⟩⟩
theorem msgR : MsgR Tryd.prog gn 68 42 43 41 M0 Tryd.f52.ntmps 18 18 none (some 0) r EI :=
  ⟨rd_ok, rd_completeE, und_i32, rdrT, one_i16, fa68_0, (def_skip Tryd.func43 rfl rfl rfl), fun F h => (by cases h), okR, by decide, by decide, by decide, rfl, by decide⟩
theorem msgW : MsgW Tryd.prog hn true 68 41 M1 Tryd.f26.ntmps (some 0) a := ⟨und_int, und_u32, one_i16, fa68_0, okW, rfl, by decide, by decide⟩
theorem plain_of {F : Nat} {fn : Func} (hf : Tryd.prog.funcs[F]? = some fn) (hb : fn.body.isNone = false) (hn : (fn.name == "runtime.NumGoroutine") = false) : Plain Tryd.prog F := ⟨fn, hf, hb, hn⟩
theorem agc : AgC Tryd.prog 5 22 50 25 26 0 EI none (some 0) r (MwM r (some 0)) vlM 18 :=
  mwa ▸ AgC.mk' (sl := 22) (bo := 4) msgR msgW Tryd.func52 bR codeR Tryd.results52 rfl (plain_of Tryd.func52 rfl rfl) Tryd.func25 bD codeD Tryd.results25 Tryd.ntmps25 (plain_of Tryd.func25 rfl rfl)
    Tryd.func26 bW codeW Tryd.results26 rfl (plain_of Tryd.func26 rfl rfl) Tryd.underlying22 info_u8 Tryd.underlying50 (errI_keep (L := 0 + 1) (Nat.lt_succ_self _)) (fun w h => h.2) vlM
    (fun w D b lo hi ver x bs bs0 ver0 hv hc hH => by have e : a.m ver (flexOf (some 0) ver) = MwM r (some 0) ver := congrFun mwa ver; rw [e]; exact hH)
noncomputable def bP : Code := (Tryd.f21.body).getD .skip
noncomputable def bS : Code := (Tryd.f24.body).getD .skip
noncomputable def bV : Code := (Tryd.f22.body).getD .skip
noncomputable def bX : Code := (Tryd.f8.body).getD .skip
theorem codeP : Tryd.f21.body = some (gNP 43 68 42 bP) := by kernel_rfl
theorem codeS : Tryd.f24.body = some (gSV 68 41 bS) := by kernel_rfl
theorem codeV : Tryd.f22.body = some (gK (.int .i16 0) (.int .i16 0) bV) := by kernel_rfl
theorem codeX : Tryd.f8.body = some (gMx 21 22 42 41 3 bX) := by kernel_rfl
theorem alc : Alc Tryd.prog 68 #[.int .i16 0, .int .u8 0, .int .u8 0, .int .u8 0, .int .u8 0, .int .u8 0, .int .u8 0, .int .u8 0, .int .u8 0, .int .u8 0, .int .u8 0, .int .u8 0, .int .u8 0, .int .u8 0, .int .u8 0, .int .u8 0, .int .u8 0, .map none] := fun o a w h => by
  obtain ⟨d, op, t, p, af, g⟩ := o
  simp only at h
  subst h
  kernel_rfl
theorem new_calls (w : World) : Calls Tryd.prog 21 #[] w fun e w' => e = .returned (.pointer (some ⟨w.heap.size, 0, none⟩)) ∧ Only (fun _ => False) w w' ∧ Blk w' w.heap.size 18 ∧ ∀ q ∈ r.nils, w'.cell? ⟨w.heap.size, q, none⟩ = some (.slice none 0 0) :=
  (NP_calls (ks := 0 :: r.nils) Tryd.func21 bP codeP Tryd.results21 Tryd.ntmps21 alc rfl (def_skip Tryd.func43 rfl rfl rfl)).mono fun e w' h => ⟨h.1, h.2.1, h.2.2.1, fun q hq => (h.2.2.2 q (List.mem_cons_of_mem _ hq)).trans (nilsZ rfl q hq)⟩
theorem set_calls (w : World) (b : Nat) (n : Int) (hb : Blk w b 18) : Calls Tryd.prog 24 #[.pointer (some ⟨b, 0, none⟩), .int .i16 n] w fun e w' => e = .returned (.tuple #[]) ∧ Only (· = b) w w' ∧ Upd b 0 1 w w' ∧ w'.cell? ⟨b, 0, none⟩ = some (.int .i16 n) :=
  SV_calls Tryd.func24 bS codeS Tryd.results24 Tryd.ntmps24 fa68_0 hb (by decide)
theorem max_calls (w : World) : Calls Tryd.prog 8 #[] w fun e w' => e = .returned (.int .i64 0) ∧ Only (fun _ => False) w w' :=
  Mx_calls Tryd.func8 bX codeX Tryd.results8 Tryd.ntmps8 und_int Tryd.underlying41 (plain_of Tryd.func21 rfl rfl) (plain_of Tryd.func22 rfl rfl) ((new_calls w).mono fun e w' h => ⟨_, h.1, h.2.1⟩) fun v w' => K_calls Tryd.func22 bV codeV Tryd.results22 Tryd.ntmps22
noncomputable def bA : Code := (Tryd.f12.body).getD .skip
theorem codeA : Tryd.f12.body = some (gAgM 21 24 25 26 42 22 50 50 3 41 bA) := by kernel_rfl
/-- What impl.AgainGetTelemetrySubscriptionsRequest comes to. -/
theorem again {w : World} {ver : Int} {vs : Value} {B : Nat} {bs : List UInt8} (hB : B ≤ w.heap.size) (hv : Oc w B vs bs) (hl : bs.length ≤ lim) (hI : EI w) (hr : IntKind.i16.wrap ver = ver) (hf : Fits none (some 0) ver r (MwM r (some 0)) vlM bs) :
    Calls Tryd.prog 12 #[.int .i64 ver, vs] w (AgQ 5 none (some 0) ver r (MwM r (some 0)) vlM w bs) :=
  AgM_calls agc Tryd.func12 bA codeA Tryd.results12 Tryd.ntmps12 (plain_of Tryd.func21 rfl rfl) (plain_of Tryd.func24 rfl rfl) und_int Tryd.underlying41 (by decide) (by decide) new_calls set_calls hB hv hl hI hr hf
theorem ei_up {w w' : World} (h : EI w) (O : Only (fun _ => False) w w') : EI w' := agc.keep w w' h (O.mono fun _ _ h => h.elim)
theorem full {w : World} {vs : Value} {B : Nat} {ver : Int} {bs : List UInt8} (hB : B ≤ w.heap.size) (hv : Oc w B vs bs) (hr : IntKind.i16.wrap ver = ver) (h : Full (r.m ver (flexOf (some 0) ver)).w bs) (hl : bs.length ≤ lim) (hI : EI w) : Calls Tryd.prog 12 #[.int .i64 ver, vs] w (FullP 5 bs w) :=
  have k := fullM h (by unfold lim at hl; unfold lim2; omega)
  (again hB hv hl hI hr k.1).mono fun e w' h => fullP_of (k.2 h)
theorem cut {w : World} {vs : Value} {B : Nat} {ver : Int} {q s : List UInt8} (hB : B ≤ w.heap.size) (hv : Oc w B vs q) (hr : IntKind.i16.wrap ver = ver) (h : Full (r.m ver (flexOf (some 0) ver)).w (q ++ s)) (hs : s ≠ []) (hl : q.length ≤ lim) (hI : EI w) : Calls Tryd.prog 12 #[.int .i64 ver, vs] w (CutP w) :=
  have k := cutM h hs hl
  (again hB hv hl hI hr k.1).mono fun e w' h => k.2 h
theorem any2 {ver : Int} {bs : List UInt8} (hr : IntKind.i16.wrap ver = ver) (hok : (r.m ver (flexOf (some 0) ver)).w.ok = true) (hl : bs.length ≤ 32767) :
    (∃ out, out.length ≤ bs.length ∧ Full (r.m ver (flexOf (some 0) ver)).w out ∧ ∀ {w : World} {vs : Value} {B : Nat}, B ≤ w.heap.size → Oc w B vs bs → EI w → Calls Tryd.prog 12 #[.int .i64 ver, vs] w (FullP 5 out w)) ∨
      ∀ {w : World} {vs : Value} {B : Nat}, B ≤ w.heap.size → Oc w B vs bs → EI w → Calls Tryd.prog 12 #[.int .i64 ver, vs] w (CutP w) := by
  have hf := (anyM hok hl).1
  have hll : bs.length ≤ lim := by unfold lim; omega
  rcases anyM2 hok hl with ⟨out, h1, h4, h5⟩ | h
  · exact .inl ⟨out, h1, h4, fun hB hv hI => (again hB hv hll hI hr hf).mono fun e w' h => h5 h⟩
  · exact .inr fun hB hv hI => (again hB hv hll hI hr hf).mono fun e w' hh => h hh
end Go.Proofs.YtjphodjbflgbaaaDoor.Kf.MGetTelemetrySubscriptionsRequest
