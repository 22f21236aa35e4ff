/- EnvelopeResponse: its schema; what the thin package's functions over it come to. -/
import Derived.Test.YtidhhlncmegjaaaDoorMsgB
import Derived.Test.YtidhhlncmegjaaaDoorLawA
import Derived.Test.YtidhhlncmegjaaaDoorDfA
import Derived.Handy
import Derived.Test.YtidhhlncmegjaaaDoorTagC
import Derived.Test.YtidhhlncmegjaaaDoorTagG
import Derived.Test.YtidhhlncmegjaaaDoorKbT
namespace Go.Proofs.YtidhhlncmegjaaaDoor.Kf.MEnvelopeResponse
set_option linter.unusedVariables false
set_option linter.unusedSimpArgs false
set_option maxRecDepth 100000
open Go Go.RowKit

def r : R := .val .all 1 1 22 (.byt2 true 156 136) (.val .all 2 2 48 (.prim .i16 130) (.tags 3 3 97 150 .done))
def a : A := .val .all 1 1 22 (.two (.byt true true) (.byt false true) 117 91) (.val .all 2 2 48 (.one (.prim .i16) 88) (.tags 3 3 97 106 105 107 .done))
noncomputable def bR : Code := (Tryd.f116.body).getD .skip
noncomputable def bW : Code := (Tryd.f69.body).getD .skip
noncomputable def bD : Code := (Tryd.f68.body).getD .skip
def M0 : Nat := (if ((some 0) : Option Int).isSome then 11 else 10) + r.k
def M1 : Nat := Nat.max ((if ((some 0) : Option Int).isSome then 7 else 6) + a.k) 7
theorem mwa : (fun ver => a.m ver (flexOf (some 0) ver)) = MwM r (some 0) := by
  funext ver
  unfold MwM
  generalize flexOf (some 0) ver = flex
  cases flex <;> rfl
theorem codeR : Tryd.f116.body = some (gRead gn 118 70 115 48 M0 none (some 0) r bR) := by kernel_rfl
theorem codeW : Tryd.f69.body = some (gWrite hn 118 48 M1 (some 0) a bW) := by kernel_rfl
theorem codeD : Tryd.f68.body = some (gRF 116 70 22 4 bD) := by kernel_rfl
theorem sz22 : (Tryd.prog.info? 22).map (·.size) = some 1 := by kernel_rfl
theorem fa118_1 : FieldAt Tryd.prog 118 1 1 22 1 := fieldAt_of Tryd.underlying118 rfl rfl rfl sz22 (by decide)
theorem sz48 : (Tryd.prog.info? 48).map (·.size) = some 1 := by kernel_rfl
theorem fa118_2 : FieldAt Tryd.prog 118 2 2 48 1 := fieldAt_of Tryd.underlying118 rfl rfl rfl sz48 (by decide)
theorem sz97 : (Tryd.prog.info? 97).map (·.size) = some 1 := by kernel_rfl
theorem fa118_3 : FieldAt Tryd.prog 118 3 3 97 1 := fieldAt_of Tryd.underlying118 rfl rfl rfl sz97 (by decide)
theorem one22 : One Tryd.prog 22 := one_of Tryd.underlying22 rfl sz22
theorem one48 : One Tryd.prog 48 := one_of Tryd.underlying48 rfl sz48
theorem fa118_0 : FieldAt Tryd.prog 118 0 0 48 1 := fieldAt_of Tryd.underlying118 rfl rfl rfl sz48 (by decide)
theorem okR : r.ok Tryd.prog true 118 1 4 := ⟨by decide, ⟨rfl, rd_cnbytes, rd_nbytes⟩, fun flex => fa118_1, ⟨by decide, NumC.rd (by decide) rd_int16, fun flex => fa118_2, ⟨by decide, rfl, rd_tags, fa118_3, done_ok (by decide)⟩⟩⟩
theorem okW : a.ok Tryd.prog 5 true true 118 := ⟨⟨rfl, app_cnbytC, app_nbytC⟩, fun flex => by cases flex <;> exact ⟨fa118_1, (.inl ⟨one22, rfl, fun _ _ => rfl⟩)⟩, ⟨app_i16C, fun flex => ⟨fa118_2, (.inl ⟨one48, rfl, fun _ _ => rfl⟩)⟩, ⟨rfl, fa118_3, tags_len, app_uvarint, tags_each, trivial⟩⟩⟩
theorem msgR : MsgR Tryd.prog gn 118 70 115 48 M0 Tryd.f116.ntmps 4 4 none (some 0) r EI :=
  ⟨rd_ok, rd_completeE, und_i32, rdrT, one_i16, fa118_0, (def_skip Tryd.func115 rfl rfl rfl), fun F h => (by cases h), okR, by decide, by decide, by decide, rfl, by decide⟩
theorem msgW : MsgW Tryd.prog hn true 118 48 M1 Tryd.f69.ntmps (some 0) a := ⟨und_int, und_u32, one_i16, fa118_0, okW, rfl, by decide, by decide⟩
theorem plain_of {F : Nat} {fn : Func} (hf : Tryd.prog.funcs[F]? = some fn) (hb : fn.body.isNone = false) (hn : (fn.name == "runtime.NumGoroutine") = false) : Plain Tryd.prog F := ⟨fn, hf, hb, hn⟩
theorem agc : AgC Tryd.prog 5 22 56 68 69 1 EI none (some 0) r (MwM r (some 0)) vlM 4 :=
  mwa ▸ AgC.mk' (sl := 22) (bo := 4) msgR msgW Tryd.func116 bR codeR Tryd.results116 rfl (plain_of Tryd.func116 rfl rfl) Tryd.func68 bD codeD Tryd.results68 Tryd.ntmps68 (plain_of Tryd.func68 rfl rfl)
    Tryd.func69 bW codeW Tryd.results69 rfl (plain_of Tryd.func69 rfl rfl) Tryd.underlying22 info_u8 Tryd.underlying56 (errI_keep (L := 1 + 1) (Nat.lt_succ_self _)) (fun w h => h.2) vlM
    (fun w D b lo hi ver x bs bs0 ver0 hv hc hH => by have e : a.m ver (flexOf (some 0) ver) = MwM r (some 0) ver := congrFun mwa ver; rw [e]; exact hH)
noncomputable def bP : Code := (Tryd.f65.body).getD .skip
noncomputable def bS : Code := (Tryd.f67.body).getD .skip
noncomputable def bV : Code := (Tryd.f66.body).getD .skip
noncomputable def bX : Code := (Tryd.f29.body).getD .skip
theorem codeP : Tryd.f65.body = some (gNP 115 118 70 bP) := by kernel_rfl
theorem codeS : Tryd.f67.body = some (gSV 118 48 bS) := by kernel_rfl
theorem codeV : Tryd.f66.body = some (gK (.int .i16 0) (.int .i16 0) bV) := by kernel_rfl
theorem codeX : Tryd.f29.body = some (gMx 65 66 70 48 3 bX) := by kernel_rfl
theorem alc : Alc Tryd.prog 118 #[.int .i16 0, .slice none 0 0, .int .i16 0, .map none] := fun o a w h => by
  obtain ⟨d, op, t, p, af, g⟩ := o
  simp only at h
  subst h
  kernel_rfl
theorem new_calls (w : World) : Calls Tryd.prog 65 #[] w fun e w' => e = .returned (.pointer (some ⟨w.heap.size, 0, none⟩)) ∧ Only (fun _ => False) w w' ∧ Blk w' w.heap.size 4 ∧ ∀ q ∈ r.nils, w'.cell? ⟨w.heap.size, q, none⟩ = some (.slice none 0 0) :=
  (NP_calls (ks := 0 :: r.nils) Tryd.func65 bP codeP Tryd.results65 Tryd.ntmps65 alc rfl (def_skip Tryd.func115 rfl rfl rfl)).mono fun e w' h => ⟨h.1, h.2.1, h.2.2.1, fun q hq => (h.2.2.2 q (List.mem_cons_of_mem _ hq)).trans (nilsZ rfl q hq)⟩
theorem set_calls (w : World) (b : Nat) (n : Int) (hb : Blk w b 4) : Calls Tryd.prog 67 #[.pointer (some ⟨b, 0, none⟩), .int .i16 n] w fun e w' => e = .returned (.tuple #[]) ∧ Only (· = b) w w' ∧ Upd b 0 1 w w' ∧ w'.cell? ⟨b, 0, none⟩ = some (.int .i16 n) :=
  SV_calls Tryd.func67 bS codeS Tryd.results67 Tryd.ntmps67 fa118_0 hb (by decide)
theorem max_calls (w : World) : Calls Tryd.prog 29 #[] w fun e w' => e = .returned (.int .i64 0) ∧ Only (fun _ => False) w w' :=
  Mx_calls Tryd.func29 bX codeX Tryd.results29 Tryd.ntmps29 und_int Tryd.underlying48 (plain_of Tryd.func65 rfl rfl) (plain_of Tryd.func66 rfl rfl) ((new_calls w).mono fun e w' h => ⟨_, h.1, h.2.1⟩) fun v w' => K_calls Tryd.func66 bV codeV Tryd.results66 Tryd.ntmps66
noncomputable def bA : Code := (Tryd.f31.body).getD .skip
theorem codeA : Tryd.f31.body = some (gAgM 65 67 68 69 70 22 56 56 3 48 bA) := by kernel_rfl
/-- What impl.AgainEnvelopeResponse comes to. -/
theorem again {w : World} {ver : Int} {vs : Value} {B : Nat} {bs : List UInt8} (hB : B ≤ w.heap.size) (hv : Oc w B vs bs) (hl : bs.length ≤ lim) (hI : EI w) (hr : IntKind.i16.wrap ver = ver) (hf : Fits none (some 0) ver r (MwM r (some 0)) vlM bs) :
    Calls Tryd.prog 31 #[.int .i64 ver, vs] w (AgQ 5 none (some 0) ver r (MwM r (some 0)) vlM w bs) :=
  AgM_calls agc Tryd.func31 bA codeA Tryd.results31 Tryd.ntmps31 (plain_of Tryd.func65 rfl rfl) (plain_of Tryd.func67 rfl rfl) und_int Tryd.underlying48 (by decide) (by decide) new_calls set_calls hB hv hl hI hr hf
theorem ei_up {w w' : World} (h : EI w) (O : Only (fun _ => False) w w') : EI w' := agc.keep w w' h (O.mono fun _ _ h => h.elim)
theorem full {w : World} {vs : Value} {B : Nat} {ver : Int} {bs : List UInt8} (hB : B ≤ w.heap.size) (hv : Oc w B vs bs) (hr : IntKind.i16.wrap ver = ver) (h : Full (r.m ver (flexOf (some 0) ver)).w bs) (hl : bs.length ≤ lim) (hI : EI w) : Calls Tryd.prog 31 #[.int .i64 ver, vs] w (FullP 5 bs w) :=
  have k := fullM h (by unfold lim at hl; unfold lim2; omega)
  (again hB hv hl hI hr k.1).mono fun e w' h => fullP_of (k.2 h)
theorem cut {w : World} {vs : Value} {B : Nat} {ver : Int} {q s : List UInt8} (hB : B ≤ w.heap.size) (hv : Oc w B vs q) (hr : IntKind.i16.wrap ver = ver) (h : Full (r.m ver (flexOf (some 0) ver)).w (q ++ s)) (hs : s ≠ []) (hl : q.length ≤ lim) (hI : EI w) : Calls Tryd.prog 31 #[.int .i64 ver, vs] w (CutP w) :=
  have k := cutM h hs hl
  (again hB hv hl hI hr k.1).mono fun e w' h => k.2 h
theorem any2 {ver : Int} {bs : List UInt8} (hr : IntKind.i16.wrap ver = ver) (hok : (r.m ver (flexOf (some 0) ver)).w.ok = true) (hl : bs.length ≤ 32767) :
    (∃ out, out.length ≤ bs.length ∧ Full (r.m ver (flexOf (some 0) ver)).w out ∧ ∀ {w : World} {vs : Value} {B : Nat}, B ≤ w.heap.size → Oc w B vs bs → EI w → Calls Tryd.prog 31 #[.int .i64 ver, vs] w (FullP 5 out w)) ∨
      ∀ {w : World} {vs : Value} {B : Nat}, B ≤ w.heap.size → Oc w B vs bs → EI w → Calls Tryd.prog 31 #[.int .i64 ver, vs] w (CutP w) := by
  have hf := (anyM hok hl).1
  have hll : bs.length ≤ lim := by unfold lim; omega
  rcases anyM2 hok hl with ⟨out, h1, h4, h5⟩ | h
  · exact .inl ⟨out, h1, h4, fun hB hv hI => (again hB hv hll hI hr hf).mono fun e w' h => h5 h⟩
  · exact .inr fun hB hv hI => (again hB hv hll hI hr hf).mono fun e w' hh => h hh
end Go.Proofs.YtidhhlncmegjaaaDoor.Kf.MEnvelopeResponse
