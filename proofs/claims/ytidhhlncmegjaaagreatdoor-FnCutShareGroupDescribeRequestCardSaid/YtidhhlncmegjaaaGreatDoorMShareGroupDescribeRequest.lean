/- ShareGroupDescribeRequest: its schema; what the thin package's functions over it come to. -/
import Derived.Test.YtidhhlncmegjaaaGreatDoorMsgB
import Derived.Test.YtidhhlncmegjaaaGreatDoorLawA
import Derived.Test.YtidhhlncmegjaaaGreatDoorDfA
import Derived.Handy
import Derived.Test.YtidhhlncmegjaaaGreatDoorTagC
import Derived.Test.YtidhhlncmegjaaaGreatDoorTagG
import Derived.Test.YtidhhlncmegjaaaGreatDoorKbT
namespace Go.Proofs.YtidhhlncmegjaaaGreatDoor.Kf.MShareGroupDescribeRequest
set_option linter.unusedVariables false
set_option linter.unusedSimpArgs false
set_option maxRecDepth 100000
open Go Go.RowKit

def r : R := .arrV .all 1 1 63 16 [.string ⟨#[]⟩] (.two 68 69) none 9 (.str2 false 72 73 74 75) (.val .all 2 2 4 (.prim .bool 80) (.tags 3 3 66 76 .done))
def a : A := .arrV .all 1 1 63 16 [.string ⟨#[]⟩] none (.two false 48 49) 9 (.two (.str true false) (.str false false) 50 51) (.val .all 2 2 4 (.one (.prim .bool) 57) (.tags 3 3 66 53 52 54 .done))
noncomputable def bR : Code := (Tryz.f56.body).getD .skip
noncomputable def bW : Code := (Tryz.f30.body).getD .skip
noncomputable def bD : Code := (Tryz.f29.body).getD .skip
def M0 : Nat := (if ((some 0) : Option Int).isSome then 11 else 10) + r.k
def M1 : Nat := Nat.max ((if ((some 0) : Option Int).isSome then 7 else 6) + a.k) 7
theorem mwa : (fun ver => a.m ver (flexOf (some 0) ver)) = MwM r (some 0) := by
  funext ver
  unfold MwM
  generalize flexOf (some 0) ver = flex
  cases flex <;> rfl
theorem codeR : Tryz.f56.body = some (gRead gn 82 54 55 42 M0 none (some 0) r bR) := by kernel_rfl
theorem codeW : Tryz.f30.body = some (gWrite hn 82 42 M1 (some 0) a bW) := by kernel_rfl
theorem codeD : Tryz.f29.body = some (gRF 56 54 22 4 bD) := by kernel_rfl
theorem sz63 : (Tryz.prog.info? 63).map (·.size) = some 1 := by kernel_rfl
theorem fa82_1 : FieldAt Tryz.prog 82 1 1 63 1 := fieldAt_of Tryz.underlying82 rfl rfl rfl sz63 (by decide)
theorem sl63 : Sl Tryz.prog 63 1 16 [.string ⟨#[]⟩] := sl_of Tryz.underlying63 (by kernel_rfl) sz63 (by decide) rfl
theorem sz9 : (Tryz.prog.info? 9).map (·.size) = some 1 := by kernel_rfl
theorem sz4 : (Tryz.prog.info? 4).map (·.size) = some 1 := by kernel_rfl
theorem fa82_2 : FieldAt Tryz.prog 82 2 2 4 1 := fieldAt_of Tryz.underlying82 rfl rfl rfl sz4 (by decide)
theorem sz66 : (Tryz.prog.info? 66).map (·.size) = some 1 := by kernel_rfl
theorem fa82_3 : FieldAt Tryz.prog 82 3 3 66 1 := fieldAt_of Tryz.underlying82 rfl rfl rfl sz66 (by decide)
theorem one9 : One Tryz.prog 9 := one_of Tryz.underlying9 rfl sz9
theorem one4 : One Tryz.prog 4 := one_of Tryz.underlying4 rfl sz4
theorem sz42 : (Tryz.prog.info? 42).map (·.size) = some 1 := by kernel_rfl
theorem fa82_0 : FieldAt Tryz.prog 82 0 0 42 1 := fieldAt_of Tryz.underlying82 rfl rfl rfl sz42 (by decide)
theorem okR : r.ok Tryz.prog true 82 1 4 := ⟨by decide, ⟨rfl, rd_cstring, rd_string⟩, ⟨rfl, rd_calen, rd_alen⟩, fa82_1, sl63, by decide, info_of sz9, fun flex => rfl, ⟨by decide, NumC.rd (by decide) rd_bool, fun flex => fa82_2, ⟨by decide, rfl, rd_tags, fa82_3, done_ok (by decide)⟩⟩⟩
theorem okW : a.ok Tryz.prog 5 true true 82 := ⟨rfl, ⟨rfl, len_compact, len_plain⟩, fa82_1, sl63, ⟨rfl, app_cstrC, app_strC⟩, fun flex => ⟨by cases flex <;> rfl, by cases flex <;> exact (.inl ⟨one9, rfl, fun _ _ => rfl⟩)⟩, ⟨app_boolC, fun flex => ⟨fa82_2, (.inl ⟨one4, rfl, fun _ _ => rfl⟩)⟩, ⟨rfl, fa82_3, tags_len, app_uvarint, tags_each, trivial⟩⟩⟩
theorem msgR : MsgR Tryz.prog gn 82 54 55 42 M0 Tryz.f56.ntmps 4 4 none (some 0) r EI :=
  ⟨rd_ok, rd_completeE, und_i32, rdrT, one_i16, fa82_0, (def_skip Tryz.func55 rfl rfl rfl), fun F h => (by cases h), okR, by decide, by decide, by decide, rfl, by decide⟩
theorem msgW : MsgW Tryz.prog hn true 82 42 M1 Tryz.f30.ntmps (some 0) a := ⟨und_int, und_u32, one_i16, fa82_0, okW, rfl, by decide, by decide⟩
theorem plain_of {F : Nat} {fn : Func} (hf : Tryz.prog.funcs[F]? = some fn) (hb : fn.body.isNone = false) (hn : (fn.name == "runtime.NumGoroutine") = false) : Plain Tryz.prog F := ⟨fn, hf, hb, hn⟩
theorem agc : AgC Tryz.prog 5 22 51 29 30 0 EI none (some 0) r (MwM r (some 0)) vlM 4 :=
  mwa ▸ AgC.mk' (sl := 22) (bo := 4) msgR msgW Tryz.func56 bR codeR Tryz.results56 rfl (plain_of Tryz.func56 rfl rfl) Tryz.func29 bD codeD Tryz.results29 Tryz.ntmps29 (plain_of Tryz.func29 rfl rfl)
    Tryz.func30 bW codeW Tryz.results30 rfl (plain_of Tryz.func30 rfl rfl) Tryz.underlying22 info_u8 Tryz.underlying51 (errI_keep (L := 0 + 1) (Nat.lt_succ_self _)) (fun w h => h.2) vlM
    (fun w D b lo hi ver x bs bs0 ver0 hv hc hH => by have e : a.m ver (flexOf (some 0) ver) = MwM r (some 0) ver := congrFun mwa ver; rw [e]; exact hH)
noncomputable def bP : Code := (Tryz.f26.body).getD .skip
noncomputable def bS : Code := (Tryz.f28.body).getD .skip
noncomputable def bV : Code := (Tryz.f27.body).getD .skip
noncomputable def bX : Code := (Tryz.f13.body).getD .skip
theorem codeP : Tryz.f26.body = some (gNP 55 82 54 bP) := by kernel_rfl
theorem codeS : Tryz.f28.body = some (gSV 82 42 bS) := by kernel_rfl
theorem codeV : Tryz.f27.body = some (gK (.int .i16 0) (.int .i16 1) bV) := by kernel_rfl
theorem codeX : Tryz.f13.body = some (gMx 26 27 54 42 3 bX) := by kernel_rfl
theorem alc : Alc Tryz.prog 82 #[.int .i16 0, .slice none 0 0, .bool false, .map none] := fun o a w h => by
  obtain ⟨d, op, t, p, af, g⟩ := o
  simp only at h
  subst h
  kernel_rfl
theorem new_calls (w : World) : Calls Tryz.prog 26 #[] w fun e w' => e = .returned (.pointer (some ⟨w.heap.size, 0, none⟩)) ∧ Only (fun _ => False) w w' ∧ Blk w' w.heap.size 4 ∧ ∀ q ∈ r.nils, w'.cell? ⟨w.heap.size, q, none⟩ = some (.slice none 0 0) :=
  (NP_calls (ks := 0 :: r.nils) Tryz.func26 bP codeP Tryz.results26 Tryz.ntmps26 alc rfl (def_skip Tryz.func55 rfl rfl rfl)).mono fun e w' h => ⟨h.1, h.2.1, h.2.2.1, fun q hq => (h.2.2.2 q (List.mem_cons_of_mem _ hq)).trans (nilsZ rfl q hq)⟩
theorem set_calls (w : World) (b : Nat) (n : Int) (hb : Blk w b 4) : Calls Tryz.prog 28 #[.pointer (some ⟨b, 0, none⟩), .int .i16 n] w fun e w' => e = .returned (.tuple #[]) ∧ Only (· = b) w w' ∧ Upd b 0 1 w w' ∧ w'.cell? ⟨b, 0, none⟩ = some (.int .i16 n) :=
  SV_calls Tryz.func28 bS codeS Tryz.results28 Tryz.ntmps28 fa82_0 hb (by decide)
theorem max_calls (w : World) : Calls Tryz.prog 13 #[] w fun e w' => e = .returned (.int .i64 1) ∧ Only (fun _ => False) w w' :=
  Mx_calls Tryz.func13 bX codeX Tryz.results13 Tryz.ntmps13 und_int Tryz.underlying42 (plain_of Tryz.func26 rfl rfl) (plain_of Tryz.func27 rfl rfl) ((new_calls w).mono fun e w' h => ⟨_, h.1, h.2.1⟩) fun v w' => K_calls Tryz.func27 bV codeV Tryz.results27 Tryz.ntmps27
noncomputable def bA : Code := (Tryz.f15.body).getD .skip
theorem codeA : Tryz.f15.body = some (gAgM 26 28 29 30 54 22 51 51 3 42 bA) := by kernel_rfl
/-- What impl.AgainShareGroupDescribeRequest comes to. -/
theorem again {w : World} {ver : Int} {vs : Value} {B : Nat} {bs : List UInt8} (hB : B ≤ w.heap.size) (hv : Oc w B vs bs) (hl : bs.length ≤ lim) (hI : EI w) (hr : IntKind.i16.wrap ver = ver) (hf : Fits none (some 0) ver r (MwM r (some 0)) vlM bs) :
    Calls Tryz.prog 15 #[.int .i64 ver, vs] w (AgQ 5 none (some 0) ver r (MwM r (some 0)) vlM w bs) :=
  AgM_calls agc Tryz.func15 bA codeA Tryz.results15 Tryz.ntmps15 (plain_of Tryz.func26 rfl rfl) (plain_of Tryz.func28 rfl rfl) und_int Tryz.underlying42 (by decide) (by decide) new_calls set_calls hB hv hl hI hr hf
theorem ei_up {w w' : World} (h : EI w) (O : Only (fun _ => False) w w') : EI w' := agc.keep w w' h (O.mono fun _ _ h => h.elim)
theorem full {w : World} {vs : Value} {B : Nat} {ver : Int} {bs : List UInt8} (hB : B ≤ w.heap.size) (hv : Oc w B vs bs) (hr : IntKind.i16.wrap ver = ver) (h : Full (r.m ver (flexOf (some 0) ver)).w bs) (hl : bs.length ≤ lim) (hI : EI w) : Calls Tryz.prog 15 #[.int .i64 ver, vs] w (FullP 5 bs w) :=
  have k := fullM h (by unfold lim at hl; unfold lim2; omega)
  (again hB hv hl hI hr k.1).mono fun e w' h => fullP_of (k.2 h)
theorem cut {w : World} {vs : Value} {B : Nat} {ver : Int} {q s : List UInt8} (hB : B ≤ w.heap.size) (hv : Oc w B vs q) (hr : IntKind.i16.wrap ver = ver) (h : Full (r.m ver (flexOf (some 0) ver)).w (q ++ s)) (hs : s ≠ []) (hl : q.length ≤ lim) (hI : EI w) : Calls Tryz.prog 15 #[.int .i64 ver, vs] w (CutP w) :=
  have k := cutM h hs hl
  (again hB hv hl hI hr k.1).mono fun e w' h => k.2 h
theorem any2 {ver : Int} {bs : List UInt8} (hr : IntKind.i16.wrap ver = ver) (hok : (r.m ver (flexOf (some 0) ver)).w.ok = true) (hl : bs.length ≤ 32767) :
    (∃ out, out.length ≤ bs.length ∧ Full (r.m ver (flexOf (some 0) ver)).w out ∧ ∀ {w : World} {vs : Value} {B : Nat}, B ≤ w.heap.size → Oc w B vs bs → EI w → Calls Tryz.prog 15 #[.int .i64 ver, vs] w (FullP 5 out w)) ∨
      ∀ {w : World} {vs : Value} {B : Nat}, B ≤ w.heap.size → Oc w B vs bs → EI w → Calls Tryz.prog 15 #[.int .i64 ver, vs] w (CutP w) := by
  have hf := (anyM hok hl).1
  have hll : bs.length ≤ lim := by unfold lim; omega
  rcases anyM2 hok hl with ⟨out, h1, h4, h5⟩ | h
  · exact .inl ⟨out, h1, h4, fun hB hv hI => (again hB hv hll hI hr hf).mono fun e w' h => h5 h⟩
  · exact .inr fun hB hv hI => (again hB hv hll hI hr hf).mono fun e w' hh => h hh
end Go.Proofs.YtidhhlncmegjaaaGreatDoor.Kf.MShareGroupDescribeRequest
