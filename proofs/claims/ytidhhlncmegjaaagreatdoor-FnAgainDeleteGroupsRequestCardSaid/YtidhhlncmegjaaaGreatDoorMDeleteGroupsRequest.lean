/- DeleteGroupsRequest: its schema; what the thin package's functions over it come to. -/
import Derived.Test.YtidhhlncmegjaaaGreatDoorMsgB
import Derived.Test.YtidhhlncmegjaaaGreatDoorLawA
import Derived.Test.YtidhhlncmegjaaaGreatDoorDfA
import Derived.Handy
import Derived.Test.YtidhhlncmegjaaaGreatDoorTagC
import Derived.Test.YtidhhlncmegjaaaGreatDoorTagG
import Derived.Test.YtidhhlncmegjaaaGreatDoorKbT
namespace Go.Proofs.YtidhhlncmegjaaaGreatDoor.Kf.MDeleteGroupsRequest
set_option linter.unusedVariables false
set_option linter.unusedSimpArgs false
set_option maxRecDepth 100000
open Go Go.RowKit

def r : R := .arrV .all 1 1 63 16 [.string ⟨#[]⟩] (.two 68 69) none 9 (.str2 false 72 73 74 75) (.tags 2 2 66 76 .done)
def a : A := .arrV .all 1 1 63 16 [.string ⟨#[]⟩] none (.two false 48 49) 9 (.two (.str true false) (.str false false) 50 51) (.tags 2 2 66 53 52 54 .done)
noncomputable def bR : Code := (Tryz.f47.body).getD .skip
noncomputable def bW : Code := (Tryz.f25.body).getD .skip
noncomputable def bD : Code := (Tryz.f24.body).getD .skip
def M0 : Nat := (if ((some 2) : Option Int).isSome then 11 else 10) + r.k
def M1 : Nat := Nat.max ((if ((some 2) : Option Int).isSome then 7 else 6) + a.k) 7
theorem mwa : (fun ver => a.m ver (flexOf (some 2) ver)) = MwM r (some 2) := by
  funext ver
  unfold MwM
  generalize flexOf (some 2) ver = flex
  cases flex <;> rfl
theorem codeR : Tryz.f47.body = some (gRead gn 68 43 38 42 M0 none (some 2) r bR) := by kernel_rfl
theorem codeW : Tryz.f25.body = some (gWrite hn 68 42 M1 (some 2) a bW) := by kernel_rfl
theorem codeD : Tryz.f24.body = some (gRF 47 43 22 4 bD) := by kernel_rfl
theorem sz63 : (Tryz.prog.info? 63).map (·.size) = some 1 := by kernel_rfl
theorem fa68_1 : FieldAt Tryz.prog 68 1 1 63 1 := fieldAt_of Tryz.underlying68 rfl rfl rfl sz63 (by decide)
theorem sl63 : Sl Tryz.prog 63 1 16 [.string ⟨#[]⟩] := sl_of Tryz.underlying63 (by kernel_rfl) sz63 (by decide) rfl
theorem sz9 : (Tryz.prog.info? 9).map (·.size) = some 1 := by kernel_rfl
theorem sz66 : (Tryz.prog.info? 66).map (·.size) = some 1 := by kernel_rfl
theorem fa68_2 : FieldAt Tryz.prog 68 2 2 66 1 := fieldAt_of Tryz.underlying68 rfl rfl rfl sz66 (by decide)
theorem one9 : One Tryz.prog 9 := one_of Tryz.underlying9 rfl sz9
theorem sz42 : (Tryz.prog.info? 42).map (·.size) = some 1 := by kernel_rfl
theorem fa68_0 : FieldAt Tryz.prog 68 0 0 42 1 := fieldAt_of Tryz.underlying68 rfl rfl rfl sz42 (by decide)
theorem okR : r.ok Tryz.prog true 68 1 3 := ⟨by decide, ⟨rfl, rd_cstring, rd_string⟩, ⟨rfl, rd_calen, rd_alen⟩, fa68_1, sl63, by decide, info_of sz9, fun flex => rfl, ⟨by decide, rfl, rd_tags, fa68_2, done_ok (by decide)⟩⟩
theorem okW : a.ok Tryz.prog 5 true true 68 := ⟨rfl, ⟨rfl, len_compact, len_plain⟩, fa68_1, sl63, ⟨rfl, app_cstrC, app_strC⟩, fun flex => ⟨by cases flex <;> rfl, by cases flex <;> exact (.inl ⟨one9, rfl, fun _ _ => rfl⟩)⟩, ⟨rfl, fa68_2, tags_len, app_uvarint, tags_each, trivial⟩⟩
theorem msgR : MsgR Tryz.prog gn 68 43 38 42 M0 Tryz.f47.ntmps 3 3 none (some 2) r EI :=
  ⟨rd_ok, rd_completeE, und_i32, rdrT, one_i16, fa68_0, (def_skip Tryz.func38 rfl rfl rfl), fun F h => (by cases h), okR, by decide, by decide, by decide, rfl, by decide⟩
theorem msgW : MsgW Tryz.prog hn true 68 42 M1 Tryz.f25.ntmps (some 2) a := ⟨und_int, und_u32, one_i16, fa68_0, okW, rfl, by decide, by decide⟩
theorem plain_of {F : Nat} {fn : Func} (hf : Tryz.prog.funcs[F]? = some fn) (hb : fn.body.isNone = false) (hn : (fn.name == "runtime.NumGoroutine") = false) : Plain Tryz.prog F := ⟨fn, hf, hb, hn⟩
theorem agc : AgC Tryz.prog 5 22 51 24 25 0 EI none (some 2) r (MwM r (some 2)) vlM 3 :=
  mwa ▸ AgC.mk' (sl := 22) (bo := 4) msgR msgW Tryz.func47 bR codeR Tryz.results47 rfl (plain_of Tryz.func47 rfl rfl) Tryz.func24 bD codeD Tryz.results24 Tryz.ntmps24 (plain_of Tryz.func24 rfl rfl)
    Tryz.func25 bW codeW Tryz.results25 rfl (plain_of Tryz.func25 rfl rfl) Tryz.underlying22 info_u8 Tryz.underlying51 (errI_keep (L := 0 + 1) (Nat.lt_succ_self _)) (fun w h => h.2) vlM
    (fun w D b lo hi ver x bs bs0 ver0 hv hc hH => by have e : a.m ver (flexOf (some 2) ver) = MwM r (some 2) ver := congrFun mwa ver; rw [e]; exact hH)
noncomputable def bP : Code := (Tryz.f20.body).getD .skip
noncomputable def bS : Code := (Tryz.f23.body).getD .skip
noncomputable def bV : Code := (Tryz.f21.body).getD .skip
noncomputable def bX : Code := (Tryz.f7.body).getD .skip
theorem codeP : Tryz.f20.body = some (gNP 38 68 43 bP) := by kernel_rfl
theorem codeS : Tryz.f23.body = some (gSV 68 42 bS) := by kernel_rfl
theorem codeV : Tryz.f21.body = some (gK (.int .i16 0) (.int .i16 3) bV) := by kernel_rfl
theorem codeX : Tryz.f7.body = some (gMx 20 21 43 42 3 bX) := by kernel_rfl
theorem alc : Alc Tryz.prog 68 #[.int .i16 0, .slice none 0 0, .map none] := fun o a w h => by
  obtain ⟨d, op, t, p, af, g⟩ := o
  simp only at h
  subst h
  kernel_rfl
theorem new_calls (w : World) : Calls Tryz.prog 20 #[] w fun e w' => e = .returned (.pointer (some ⟨w.heap.size, 0, none⟩)) ∧ Only (fun _ => False) w w' ∧ Blk w' w.heap.size 3 ∧ ∀ q ∈ r.nils, w'.cell? ⟨w.heap.size, q, none⟩ = some (.slice none 0 0) :=
  (NP_calls (ks := 0 :: r.nils) Tryz.func20 bP codeP Tryz.results20 Tryz.ntmps20 alc rfl (def_skip Tryz.func38 rfl rfl rfl)).mono fun e w' h => ⟨h.1, h.2.1, h.2.2.1, fun q hq => (h.2.2.2 q (List.mem_cons_of_mem _ hq)).trans (nilsZ rfl q hq)⟩
theorem set_calls (w : World) (b : Nat) (n : Int) (hb : Blk w b 3) : Calls Tryz.prog 23 #[.pointer (some ⟨b, 0, none⟩), .int .i16 n] w fun e w' => e = .returned (.tuple #[]) ∧ Only (· = b) w w' ∧ Upd b 0 1 w w' ∧ w'.cell? ⟨b, 0, none⟩ = some (.int .i16 n) :=
  SV_calls Tryz.func23 bS codeS Tryz.results23 Tryz.ntmps23 fa68_0 hb (by decide)
theorem max_calls (w : World) : Calls Tryz.prog 7 #[] w fun e w' => e = .returned (.int .i64 3) ∧ Only (fun _ => False) w w' :=
  Mx_calls Tryz.func7 bX codeX Tryz.results7 Tryz.ntmps7 und_int Tryz.underlying42 (plain_of Tryz.func20 rfl rfl) (plain_of Tryz.func21 rfl rfl) ((new_calls w).mono fun e w' h => ⟨_, h.1, h.2.1⟩) fun v w' => K_calls Tryz.func21 bV codeV Tryz.results21 Tryz.ntmps21
noncomputable def bA : Code := (Tryz.f11.body).getD .skip
theorem codeA : Tryz.f11.body = some (gAgM 20 23 24 25 43 22 51 51 3 42 bA) := by kernel_rfl
/-- What impl.AgainDeleteGroupsRequest comes to. -/
theorem again {w : World} {ver : Int} {vs : Value} {B : Nat} {bs : List UInt8} (hB : B ≤ w.heap.size) (hv : Oc w B vs bs) (hl : bs.length ≤ lim) (hI : EI w) (hr : IntKind.i16.wrap ver = ver) (hf : Fits none (some 2) ver r (MwM r (some 2)) vlM bs) :
    Calls Tryz.prog 11 #[.int .i64 ver, vs] w (AgQ 5 none (some 2) ver r (MwM r (some 2)) vlM w bs) :=
  AgM_calls agc Tryz.func11 bA codeA Tryz.results11 Tryz.ntmps11 (plain_of Tryz.func20 rfl rfl) (plain_of Tryz.func23 rfl rfl) und_int Tryz.underlying42 (by decide) (by decide) new_calls set_calls hB hv hl hI hr hf
theorem ei_up {w w' : World} (h : EI w) (O : Only (fun _ => False) w w') : EI w' := agc.keep w w' h (O.mono fun _ _ h => h.elim)
theorem full {w : World} {vs : Value} {B : Nat} {ver : Int} {bs : List UInt8} (hB : B ≤ w.heap.size) (hv : Oc w B vs bs) (hr : IntKind.i16.wrap ver = ver) (h : Full (r.m ver (flexOf (some 2) ver)).w bs) (hl : bs.length ≤ lim) (hI : EI w) : Calls Tryz.prog 11 #[.int .i64 ver, vs] w (FullP 5 bs w) :=
  have k := fullM h (by unfold lim at hl; unfold lim2; omega)
  (again hB hv hl hI hr k.1).mono fun e w' h => fullP_of (k.2 h)
theorem cut {w : World} {vs : Value} {B : Nat} {ver : Int} {q s : List UInt8} (hB : B ≤ w.heap.size) (hv : Oc w B vs q) (hr : IntKind.i16.wrap ver = ver) (h : Full (r.m ver (flexOf (some 2) ver)).w (q ++ s)) (hs : s ≠ []) (hl : q.length ≤ lim) (hI : EI w) : Calls Tryz.prog 11 #[.int .i64 ver, vs] w (CutP w) :=
  have k := cutM h hs hl
  (again hB hv hl hI hr k.1).mono fun e w' h => k.2 h
theorem any2 {ver : Int} {bs : List UInt8} (hr : IntKind.i16.wrap ver = ver) (hok : (r.m ver (flexOf (some 2) ver)).w.ok = true) (hl : bs.length ≤ 32767) :
    (∃ out, out.length ≤ bs.length ∧ Full (r.m ver (flexOf (some 2) ver)).w out ∧ ∀ {w : World} {vs : Value} {B : Nat}, B ≤ w.heap.size → Oc w B vs bs → EI w → Calls Tryz.prog 11 #[.int .i64 ver, vs] w (FullP 5 out w)) ∨
      ∀ {w : World} {vs : Value} {B : Nat}, B ≤ w.heap.size → Oc w B vs bs → EI w → Calls Tryz.prog 11 #[.int .i64 ver, vs] w (CutP w) := by
  have hf := (anyM hok hl).1
  have hll : bs.length ≤ lim := by unfold lim; omega
  rcases anyM2 hok hl with ⟨out, h1, h4, h5⟩ | h
  · exact .inl ⟨out, h1, h4, fun hB hv hI => (again hB hv hll hI hr hf).mono fun e w' h => h5 h⟩
  · exact .inr fun hB hv hI => (again hB hv hll hI hr hf).mono fun e w' hh => h hh
end Go.Proofs.YtidhhlncmegjaaaGreatDoor.Kf.MDeleteGroupsRequest
