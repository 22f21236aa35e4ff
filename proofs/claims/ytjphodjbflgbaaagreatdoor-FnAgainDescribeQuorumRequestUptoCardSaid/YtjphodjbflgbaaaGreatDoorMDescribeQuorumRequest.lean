/- DescribeQuorumRequest: its schema; what the thin package's functions over it come to. -/
import Derived.Test.YtjphodjbflgbaaaGreatDoorMsgB
import Derived.Test.YtjphodjbflgbaaaGreatDoorLawA
import Derived.Test.YtjphodjbflgbaaaGreatDoorDfA
import Derived.Handy
import Derived.Test.YtjphodjbflgbaaaGreatDoorTagC
import Derived.Test.YtjphodjbflgbaaaGreatDoorTagG
import Derived.Test.YtjphodjbflgbaaaGreatDoorKbT
namespace Go.Proofs.YtjphodjbflgbaaaGreatDoor.Kf.MDescribeQuorumRequest
set_option linter.unusedVariables false
set_option linter.unusedSimpArgs false
set_option maxRecDepth 100000
open Go Go.RowKit

def r : R := .arrS .all 1 1 114 48 [.string ⟨#[]⟩, .slice none 0 0, .map none] (.two 114 115) none 138 117 120 (.val .all 0 0 9 (.str2 false 119 120 121 122) (.arrS .all 1 1 118 16 [.int .i32 0, .map none] (.two 114 115) none 139 121 123 (.val .all 0 0 21 (.prim .i32 123) (.tags 1 1 72 124 .done)) (.tags 2 2 72 124 .done))) (.tags 2 2 72 124 .done)
def a : A := .arrS .all 1 1 114 48 [.string ⟨#[]⟩, .slice none 0 0, .map none] none (.two false 82 83) 120 (.val .all 0 0 9 (.two (.str true false) (.str false false) 84 85) (.arrS .all 1 1 118 16 [.int .i32 0, .map none] none (.two false 82 83) 123 (.val .all 0 0 21 (.one (.prim .i32) 86) (.tags 1 1 72 88 87 89 .done)) (.tags 2 2 72 88 87 89 .done))) (.tags 2 2 72 88 87 89 .done)
noncomputable def bR : Code := (Tryz.f101.body).getD .skip
noncomputable def bW : Code := (Tryz.f62.body).getD .skip
noncomputable def bD : Code := (Tryz.f61.body).getD .skip
def M0 : Nat := (if ((some 0) : Option Int).isSome then 11 else 10) + r.k
def M1 : Nat := Nat.max ((if ((some 0) : Option Int).isSome then 7 else 6) + a.k) 7
theorem mwa : (fun ver => a.m ver (flexOf (some 0) ver)) = MwM r (some 0) := by
  funext ver
  unfold MwM
  generalize flexOf (some 0) ver = flex
  cases flex <;> rfl
theorem codeR : Tryz.f101.body = some (gRead gn 116 61 99 42 M0 none (some 0) r bR) := by kernel_rfl
theorem codeW : Tryz.f62.body = some (gWrite hn 116 42 M1 (some 0) a bW) := by kernel_rfl
theorem codeD : Tryz.f61.body = some (gRF 101 61 22 4 bD) := by kernel_rfl
theorem sz114 : (Tryz.prog.info? 114).map (·.size) = some 1 := by kernel_rfl
theorem fa116_1 : FieldAt Tryz.prog 116 1 1 114 1 := fieldAt_of Tryz.underlying116 rfl rfl rfl sz114 (by decide)
theorem sl114 : Sl Tryz.prog 114 3 48 [.string ⟨#[]⟩, .slice none 0 0, .map none] := sl_of Tryz.underlying114 (by kernel_rfl) sz114 (by decide) rfl
theorem sz9 : (Tryz.prog.info? 9).map (·.size) = some 1 := by kernel_rfl
theorem fa120_0 : FieldAt Tryz.prog 120 0 0 9 1 := fieldAt_of Tryz.underlying120 rfl rfl rfl sz9 (by decide)
theorem sz118 : (Tryz.prog.info? 118).map (·.size) = some 1 := by kernel_rfl
theorem fa120_1 : FieldAt Tryz.prog 120 1 1 118 1 := fieldAt_of Tryz.underlying120 rfl rfl rfl sz118 (by decide)
theorem sl118 : Sl Tryz.prog 118 2 16 [.int .i32 0, .map none] := sl_of Tryz.underlying118 (by kernel_rfl) sz118 (by decide) rfl
theorem sz21 : (Tryz.prog.info? 21).map (·.size) = some 1 := by kernel_rfl
theorem fa123_0 : FieldAt Tryz.prog 123 0 0 21 1 := fieldAt_of Tryz.underlying123 rfl rfl rfl sz21 (by decide)
theorem sz72 : (Tryz.prog.info? 72).map (·.size) = some 1 := by kernel_rfl
theorem fa123_1 : FieldAt Tryz.prog 123 1 1 72 1 := fieldAt_of Tryz.underlying123 rfl rfl rfl sz72 (by decide)
theorem fa120_2 : FieldAt Tryz.prog 120 2 2 72 1 := fieldAt_of Tryz.underlying120 rfl rfl rfl sz72 (by decide)
theorem fa116_2 : FieldAt Tryz.prog 116 2 2 72 1 := fieldAt_of Tryz.underlying116 rfl rfl rfl sz72 (by decide)
theorem one9 : One Tryz.prog 9 := one_of Tryz.underlying9 rfl sz9
theorem one21 : One Tryz.prog 21 := one_of Tryz.underlying21 rfl sz21
theorem sz42 : (Tryz.prog.info? 42).map (·.size) = some 1 := by kernel_rfl
theorem fa116_0 : FieldAt Tryz.prog 116 0 0 42 1 := fieldAt_of Tryz.underlying116 rfl rfl rfl sz42 (by decide)
theorem okR : r.ok Tryz.prog true 116 1 3 := ⟨by decide, ⟨rfl, rd_calen, rd_alen⟩, fa116_1, sl114, by decide, (def_skip Tryz.func138 rfl rfl rfl), nils_ok rfl, ⟨by decide, ⟨rfl, rd_cstring, rd_string⟩, fun flex => fa120_0, ⟨by decide, ⟨rfl, rd_calen, rd_alen⟩, fa120_1, sl118, by decide, (def_skip Tryz.func139 rfl rfl rfl), nils_ok rfl, ⟨by decide, NumC.rd (by decide) rd_int32, fun flex => fa123_0, ⟨by decide, rfl, rd_tags, fa123_1, done_ok (by decide)⟩⟩, ⟨by decide, rfl, rd_tags, fa120_2, done_ok (by decide)⟩⟩⟩, ⟨by decide, rfl, rd_tags, fa116_2, done_ok (by decide)⟩⟩
theorem okW : a.ok Tryz.prog 5 true true 116 := ⟨rfl, ⟨rfl, len_compact, len_plain⟩, fa116_1, sl114, ⟨⟨rfl, app_cstrC, app_strC⟩, fun flex => by cases flex <;> exact ⟨fa120_0, (.inl ⟨one9, rfl, fun _ _ => rfl⟩)⟩, ⟨rfl, ⟨rfl, len_compact, len_plain⟩, fa120_1, sl118, ⟨app_i32C, fun flex => ⟨fa123_0, (.inl ⟨one21, rfl, fun _ _ => rfl⟩)⟩, ⟨rfl, fa123_1, tags_len, app_uvarint, tags_each, trivial⟩⟩, ⟨rfl, fa120_2, tags_len, app_uvarint, tags_each, trivial⟩⟩⟩, ⟨rfl, fa116_2, tags_len, app_uvarint, tags_each, trivial⟩⟩
theorem msgR : MsgR Tryz.prog gn 116 61 99 42 M0 Tryz.f101.ntmps 3 3 none (some 0) r EI :=
  ⟨rd_ok, rd_completeE, und_i32, rdrT, one_i16, fa116_0, (def_skip Tryz.func99 rfl rfl rfl), fun F h => (by cases h), okR, by decide, by decide, by decide, rfl, by decide⟩
theorem msgW : MsgW Tryz.prog hn true 116 42 M1 Tryz.f62.ntmps (some 0) a := ⟨und_int, und_u32, one_i16, fa116_0, okW, rfl, by decide, by decide⟩
theorem plain_of {F : Nat} {fn : Func} (hf : Tryz.prog.funcs[F]? = some fn) (hb : fn.body.isNone = false) (hn : (fn.name == "runtime.NumGoroutine") = false) : Plain Tryz.prog F := ⟨fn, hf, hb, hn⟩
theorem agc : AgC Tryz.prog 5 22 52 61 62 1 EI none (some 0) r (MwM r (some 0)) vlM 3 :=
  mwa ▸ AgC.mk' (sl := 22) (bo := 4) msgR msgW Tryz.func101 bR codeR Tryz.results101 rfl (plain_of Tryz.func101 rfl rfl) Tryz.func61 bD codeD Tryz.results61 Tryz.ntmps61 (plain_of Tryz.func61 rfl rfl)
    Tryz.func62 bW codeW Tryz.results62 rfl (plain_of Tryz.func62 rfl rfl) Tryz.underlying22 info_u8 Tryz.underlying52 (errI_keep (L := 1 + 1) (Nat.lt_succ_self _)) (fun w h => h.2) vlM
    (fun w D b lo hi ver x bs bs0 ver0 hv hc hH => by have e : a.m ver (flexOf (some 0) ver) = MwM r (some 0) ver := congrFun mwa ver; rw [e]; exact hH)
noncomputable def bP : Code := (Tryz.f57.body).getD .skip
noncomputable def bS : Code := (Tryz.f60.body).getD .skip
noncomputable def bV : Code := (Tryz.f58.body).getD .skip
noncomputable def bX : Code := (Tryz.f25.body).getD .skip
theorem codeP : Tryz.f57.body = some (gNP 99 116 61 bP) := by kernel_rfl
theorem codeS : Tryz.f60.body = some (gSV 116 42 bS) := by kernel_rfl
theorem codeV : Tryz.f58.body = some (gK (.int .i16 0) (.int .i16 2) bV) := by kernel_rfl
theorem codeX : Tryz.f25.body = some (gMx 57 58 61 42 3 bX) := by kernel_rfl
theorem alc : Alc Tryz.prog 116 #[.int .i16 0, .slice none 0 0, .map none] := fun o a w h => by
  obtain ⟨d, op, t, p, af, g⟩ := o
  simp only at h
  subst h
  kernel_rfl
theorem new_calls (w : World) : Calls Tryz.prog 57 #[] w fun e w' => e = .returned (.pointer (some ⟨w.heap.size, 0, none⟩)) ∧ Only (fun _ => False) w w' ∧ Blk w' w.heap.size 3 ∧ ∀ q ∈ r.nils, w'.cell? ⟨w.heap.size, q, none⟩ = some (.slice none 0 0) :=
  (NP_calls (ks := 0 :: r.nils) Tryz.func57 bP codeP Tryz.results57 Tryz.ntmps57 alc rfl (def_skip Tryz.func99 rfl rfl rfl)).mono fun e w' h => ⟨h.1, h.2.1, h.2.2.1, fun q hq => (h.2.2.2 q (List.mem_cons_of_mem _ hq)).trans (nilsZ rfl q hq)⟩
theorem set_calls (w : World) (b : Nat) (n : Int) (hb : Blk w b 3) : Calls Tryz.prog 60 #[.pointer (some ⟨b, 0, none⟩), .int .i16 n] w fun e w' => e = .returned (.tuple #[]) ∧ Only (· = b) w w' ∧ Upd b 0 1 w w' ∧ w'.cell? ⟨b, 0, none⟩ = some (.int .i16 n) :=
  SV_calls Tryz.func60 bS codeS Tryz.results60 Tryz.ntmps60 fa116_0 hb (by decide)
theorem max_calls (w : World) : Calls Tryz.prog 25 #[] w fun e w' => e = .returned (.int .i64 2) ∧ Only (fun _ => False) w w' :=
  Mx_calls Tryz.func25 bX codeX Tryz.results25 Tryz.ntmps25 und_int Tryz.underlying42 (plain_of Tryz.func57 rfl rfl) (plain_of Tryz.func58 rfl rfl) ((new_calls w).mono fun e w' h => ⟨_, h.1, h.2.1⟩) fun v w' => K_calls Tryz.func58 bV codeV Tryz.results58 Tryz.ntmps58
noncomputable def bA : Code := (Tryz.f27.body).getD .skip
theorem codeA : Tryz.f27.body = some (gAgM 57 60 61 62 61 22 52 52 3 42 bA) := by kernel_rfl
/-- What impl.AgainDescribeQuorumRequest comes to. -/
theorem again {w : World} {ver : Int} {vs : Value} {B : Nat} {bs : List UInt8} (hB : B ≤ w.heap.size) (hv : Oc w B vs bs) (hl : bs.length ≤ lim) (hI : EI w) (hr : IntKind.i16.wrap ver = ver) (hf : Fits none (some 0) ver r (MwM r (some 0)) vlM bs) :
    Calls Tryz.prog 27 #[.int .i64 ver, vs] w (AgQ 5 none (some 0) ver r (MwM r (some 0)) vlM w bs) :=
  AgM_calls agc Tryz.func27 bA codeA Tryz.results27 Tryz.ntmps27 (plain_of Tryz.func57 rfl rfl) (plain_of Tryz.func60 rfl rfl) und_int Tryz.underlying42 (by decide) (by decide) new_calls set_calls hB hv hl hI hr hf
theorem ei_up {w w' : World} (h : EI w) (O : Only (fun _ => False) w w') : EI w' := agc.keep w w' h (O.mono fun _ _ h => h.elim)
theorem full {w : World} {vs : Value} {B : Nat} {ver : Int} {bs : List UInt8} (hB : B ≤ w.heap.size) (hv : Oc w B vs bs) (hr : IntKind.i16.wrap ver = ver) (h : Full (r.m ver (flexOf (some 0) ver)).w bs) (hl : bs.length ≤ lim) (hI : EI w) : Calls Tryz.prog 27 #[.int .i64 ver, vs] w (FullP 5 bs w) :=
  have k := fullM h (by unfold lim at hl; unfold lim2; omega)
  (again hB hv hl hI hr k.1).mono fun e w' h => fullP_of (k.2 h)
theorem cut {w : World} {vs : Value} {B : Nat} {ver : Int} {q s : List UInt8} (hB : B ≤ w.heap.size) (hv : Oc w B vs q) (hr : IntKind.i16.wrap ver = ver) (h : Full (r.m ver (flexOf (some 0) ver)).w (q ++ s)) (hs : s ≠ []) (hl : q.length ≤ lim) (hI : EI w) : Calls Tryz.prog 27 #[.int .i64 ver, vs] w (CutP w) :=
  have k := cutM h hs hl
  (again hB hv hl hI hr k.1).mono fun e w' h => k.2 h
theorem any2 {ver : Int} {bs : List UInt8} (hr : IntKind.i16.wrap ver = ver) (hok : (r.m ver (flexOf (some 0) ver)).w.ok = true) (hl : bs.length ≤ 32767) :
    (∃ out, out.length ≤ bs.length ∧ Full (r.m ver (flexOf (some 0) ver)).w out ∧ ∀ {w : World} {vs : Value} {B : Nat}, B ≤ w.heap.size → Oc w B vs bs → EI w → Calls Tryz.prog 27 #[.int .i64 ver, vs] w (FullP 5 out w)) ∨
      ∀ {w : World} {vs : Value} {B : Nat}, B ≤ w.heap.size → Oc w B vs bs → EI w → Calls Tryz.prog 27 #[.int .i64 ver, vs] w (CutP w) := by
  have hf := (anyM hok hl).1
  have hll : bs.length ≤ lim := by unfold lim; omega
  rcases anyM2 hok hl with ⟨out, h1, h4, h5⟩ | h
  · exact .inl ⟨out, h1, h4, fun hB hv hI => (again hB hv hll hI hr hf).mono fun e w' h => h5 h⟩
  · exact .inr fun hB hv hI => (again hB hv hll hI hr hf).mono fun e w' hh => h hh
end Go.Proofs.YtjphodjbflgbaaaGreatDoor.Kf.MDescribeQuorumRequest
