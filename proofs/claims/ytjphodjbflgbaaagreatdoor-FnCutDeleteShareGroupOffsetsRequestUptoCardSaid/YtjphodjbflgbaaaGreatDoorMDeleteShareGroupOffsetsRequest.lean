/- DeleteShareGroupOffsetsRequest: its schema; what the thin package's functions over it come to. -/
import Derived.Test.YtjphodjbflgbaaaGreatDoorMsgB
import Derived.Test.YtjphodjbflgbaaaGreatDoorLawA
import Derived.Test.YtjphodjbflgbaaaGreatDoorDfA
import Derived.Handy
import Derived.Test.YtjphodjbflgbaaaGreatDoorTagC
import Derived.Test.YtjphodjbflgbaaaGreatDoorTagG
import Derived.Test.YtjphodjbflgbaaaGreatDoorKbT
namespace Go.Proofs.YtjphodjbflgbaaaGreatDoor.Kf.MDeleteShareGroupOffsetsRequest
set_option linter.unusedVariables false
set_option linter.unusedSimpArgs false
set_option maxRecDepth 100000
open Go Go.RowKit

def r : R := .val .all 1 1 9 (.str2 false 119 120 121 122) (.arrS .all 2 2 92 24 [.string ⟨#[]⟩, .map none] (.two 114 115) none 130 95 97 (.val .all 0 0 9 (.str2 false 119 120 121 122) (.tags 1 1 72 124 .done)) (.tags 3 3 72 124 .done))
def a : A := .val .all 1 1 9 (.two (.str true false) (.str false false) 84 85) (.arrS .all 2 2 92 24 [.string ⟨#[]⟩, .map none] none (.two false 82 83) 97 (.val .all 0 0 9 (.two (.str true false) (.str false false) 84 85) (.tags 1 1 72 88 87 89 .done)) (.tags 3 3 72 88 87 89 .done))
noncomputable def bR : Code := (Tryz.f91.body).getD .skip
noncomputable def bW : Code := (Tryz.f44.body).getD .skip
noncomputable def bD : Code := (Tryz.f43.body).getD .skip
def M0 : Nat := (if ((some 0) : Option Int).isSome then 11 else 10) + r.k
def M1 : Nat := Nat.max ((if ((some 0) : Option Int).isSome then 7 else 6) + a.k) 7
theorem mwa : (fun ver => a.m ver (flexOf (some 0) ver)) = MwM r (some 0) := by
  funext ver
  unfold MwM
  generalize flexOf (some 0) ver = flex
  cases flex <;> rfl
theorem codeR : Tryz.f91.body = some (gRead gn 94 55 90 42 M0 none (some 0) r bR) := by kernel_rfl
theorem codeW : Tryz.f44.body = some (gWrite hn 94 42 M1 (some 0) a bW) := by kernel_rfl
theorem codeD : Tryz.f43.body = some (gRF 91 55 22 4 bD) := by kernel_rfl
theorem sz9 : (Tryz.prog.info? 9).map (·.size) = some 1 := by kernel_rfl
theorem fa94_1 : FieldAt Tryz.prog 94 1 1 9 1 := fieldAt_of Tryz.underlying94 rfl rfl rfl sz9 (by decide)
theorem sz92 : (Tryz.prog.info? 92).map (·.size) = some 1 := by kernel_rfl
theorem fa94_2 : FieldAt Tryz.prog 94 2 2 92 1 := fieldAt_of Tryz.underlying94 rfl rfl rfl sz92 (by decide)
theorem sl92 : Sl Tryz.prog 92 2 24 [.string ⟨#[]⟩, .map none] := sl_of Tryz.underlying92 (by kernel_rfl) sz92 (by decide) rfl
theorem fa97_0 : FieldAt Tryz.prog 97 0 0 9 1 := fieldAt_of Tryz.underlying97 rfl rfl rfl sz9 (by decide)
theorem sz72 : (Tryz.prog.info? 72).map (·.size) = some 1 := by kernel_rfl
theorem fa97_1 : FieldAt Tryz.prog 97 1 1 72 1 := fieldAt_of Tryz.underlying97 rfl rfl rfl sz72 (by decide)
theorem fa94_3 : FieldAt Tryz.prog 94 3 3 72 1 := fieldAt_of Tryz.underlying94 rfl rfl rfl sz72 (by decide)
theorem one9 : One Tryz.prog 9 := one_of Tryz.underlying9 rfl sz9
theorem sz42 : (Tryz.prog.info? 42).map (·.size) = some 1 := by kernel_rfl
theorem fa94_0 : FieldAt Tryz.prog 94 0 0 42 1 := fieldAt_of Tryz.underlying94 rfl rfl rfl sz42 (by decide)
theorem okR : r.ok Tryz.prog true 94 1 4 := ⟨by decide, ⟨rfl, rd_cstring, rd_string⟩, fun flex => fa94_1, ⟨by decide, ⟨rfl, rd_calen, rd_alen⟩, fa94_2, sl92, by decide, (def_skip Tryz.func130 rfl rfl rfl), nils_ok rfl, ⟨by decide, ⟨rfl, rd_cstring, rd_string⟩, fun flex => fa97_0, ⟨by decide, rfl, rd_tags, fa97_1, done_ok (by decide)⟩⟩, ⟨by decide, rfl, rd_tags, fa94_3, done_ok (by decide)⟩⟩⟩
theorem okW : a.ok Tryz.prog 5 true true 94 := ⟨⟨rfl, app_cstrC, app_strC⟩, fun flex => by cases flex <;> exact ⟨fa94_1, (.inl ⟨one9, rfl, fun _ _ => rfl⟩)⟩, ⟨rfl, ⟨rfl, len_compact, len_plain⟩, fa94_2, sl92, ⟨⟨rfl, app_cstrC, app_strC⟩, fun flex => by cases flex <;> exact ⟨fa97_0, (.inl ⟨one9, rfl, fun _ _ => rfl⟩)⟩, ⟨rfl, fa97_1, tags_len, app_uvarint, tags_each, trivial⟩⟩, ⟨rfl, fa94_3, tags_len, app_uvarint, tags_each, trivial⟩⟩⟩
theorem msgR : MsgR Tryz.prog gn 94 55 90 42 M0 Tryz.f91.ntmps 4 4 none (some 0) r EI :=
  ⟨rd_ok, rd_completeE, und_i32, rdrT, one_i16, fa94_0, (def_skip Tryz.func90 rfl rfl rfl), fun F h => (by cases h), okR, by decide, by decide, by decide, rfl, by decide⟩
theorem msgW : MsgW Tryz.prog hn true 94 42 M1 Tryz.f44.ntmps (some 0) a := ⟨und_int, und_u32, one_i16, fa94_0, okW, rfl, by decide, by decide⟩
theorem plain_of {F : Nat} {fn : Func} (hf : Tryz.prog.funcs[F]? = some fn) (hb : fn.body.isNone = false) (hn : (fn.name == "runtime.NumGoroutine") = false) : Plain Tryz.prog F := ⟨fn, hf, hb, hn⟩
theorem agc : AgC Tryz.prog 5 22 52 43 44 1 EI none (some 0) r (MwM r (some 0)) vlM 4 :=
  mwa ▸ AgC.mk' (sl := 22) (bo := 4) msgR msgW Tryz.func91 bR codeR Tryz.results91 rfl (plain_of Tryz.func91 rfl rfl) Tryz.func43 bD codeD Tryz.results43 Tryz.ntmps43 (plain_of Tryz.func43 rfl rfl)
    Tryz.func44 bW codeW Tryz.results44 rfl (plain_of Tryz.func44 rfl rfl) Tryz.underlying22 info_u8 Tryz.underlying52 (errI_keep (L := 1 + 1) (Nat.lt_succ_self _)) (fun w h => h.2) vlM
    (fun w D b lo hi ver x bs bs0 ver0 hv hc hH => by have e : a.m ver (flexOf (some 0) ver) = MwM r (some 0) ver := congrFun mwa ver; rw [e]; exact hH)
noncomputable def bP : Code := (Tryz.f39.body).getD .skip
noncomputable def bS : Code := (Tryz.f42.body).getD .skip
noncomputable def bV : Code := (Tryz.f40.body).getD .skip
noncomputable def bX : Code := (Tryz.f16.body).getD .skip
theorem codeP : Tryz.f39.body = some (gNP 90 94 55 bP) := by kernel_rfl
theorem codeS : Tryz.f42.body = some (gSV 94 42 bS) := by kernel_rfl
theorem codeV : Tryz.f40.body = some (gK (.int .i16 0) (.int .i16 0) bV) := by kernel_rfl
theorem codeX : Tryz.f16.body = some (gMx 39 40 55 42 3 bX) := by kernel_rfl
theorem alc : Alc Tryz.prog 94 #[.int .i16 0, .string ⟨#[]⟩, .slice none 0 0, .map none] := fun o a w h => by
  obtain ⟨d, op, t, p, af, g⟩ := o
  simp only at h
  subst h
  kernel_rfl
theorem new_calls (w : World) : Calls Tryz.prog 39 #[] w fun e w' => e = .returned (.pointer (some ⟨w.heap.size, 0, none⟩)) ∧ Only (fun _ => False) w w' ∧ Blk w' w.heap.size 4 ∧ ∀ q ∈ r.nils, w'.cell? ⟨w.heap.size, q, none⟩ = some (.slice none 0 0) :=
  (NP_calls (ks := 0 :: r.nils) Tryz.func39 bP codeP Tryz.results39 Tryz.ntmps39 alc rfl (def_skip Tryz.func90 rfl rfl rfl)).mono fun e w' h => ⟨h.1, h.2.1, h.2.2.1, fun q hq => (h.2.2.2 q (List.mem_cons_of_mem _ hq)).trans (nilsZ rfl q hq)⟩
theorem set_calls (w : World) (b : Nat) (n : Int) (hb : Blk w b 4) : Calls Tryz.prog 42 #[.pointer (some ⟨b, 0, none⟩), .int .i16 n] w fun e w' => e = .returned (.tuple #[]) ∧ Only (· = b) w w' ∧ Upd b 0 1 w w' ∧ w'.cell? ⟨b, 0, none⟩ = some (.int .i16 n) :=
  SV_calls Tryz.func42 bS codeS Tryz.results42 Tryz.ntmps42 fa94_0 hb (by decide)
theorem max_calls (w : World) : Calls Tryz.prog 16 #[] w fun e w' => e = .returned (.int .i64 0) ∧ Only (fun _ => False) w w' :=
  Mx_calls Tryz.func16 bX codeX Tryz.results16 Tryz.ntmps16 und_int Tryz.underlying42 (plain_of Tryz.func39 rfl rfl) (plain_of Tryz.func40 rfl rfl) ((new_calls w).mono fun e w' h => ⟨_, h.1, h.2.1⟩) fun v w' => K_calls Tryz.func40 bV codeV Tryz.results40 Tryz.ntmps40
noncomputable def bA : Code := (Tryz.f18.body).getD .skip
theorem codeA : Tryz.f18.body = some (gAgM 39 42 43 44 55 22 52 52 3 42 bA) := by kernel_rfl
/-- What impl.AgainDeleteShareGroupOffsetsRequest comes to. -/
theorem again {w : World} {ver : Int} {vs : Value} {B : Nat} {bs : List UInt8} (hB : B ≤ w.heap.size) (hv : Oc w B vs bs) (hl : bs.length ≤ lim) (hI : EI w) (hr : IntKind.i16.wrap ver = ver) (hf : Fits none (some 0) ver r (MwM r (some 0)) vlM bs) :
    Calls Tryz.prog 18 #[.int .i64 ver, vs] w (AgQ 5 none (some 0) ver r (MwM r (some 0)) vlM w bs) :=
  AgM_calls agc Tryz.func18 bA codeA Tryz.results18 Tryz.ntmps18 (plain_of Tryz.func39 rfl rfl) (plain_of Tryz.func42 rfl rfl) und_int Tryz.underlying42 (by decide) (by decide) new_calls set_calls hB hv hl hI hr hf
theorem ei_up {w w' : World} (h : EI w) (O : Only (fun _ => False) w w') : EI w' := agc.keep w w' h (O.mono fun _ _ h => h.elim)
theorem full {w : World} {vs : Value} {B : Nat} {ver : Int} {bs : List UInt8} (hB : B ≤ w.heap.size) (hv : Oc w B vs bs) (hr : IntKind.i16.wrap ver = ver) (h : Full (r.m ver (flexOf (some 0) ver)).w bs) (hl : bs.length ≤ lim) (hI : EI w) : Calls Tryz.prog 18 #[.int .i64 ver, vs] w (FullP 5 bs w) :=
  have k := fullM h (by unfold lim at hl; unfold lim2; omega)
  (again hB hv hl hI hr k.1).mono fun e w' h => fullP_of (k.2 h)
theorem cut {w : World} {vs : Value} {B : Nat} {ver : Int} {q s : List UInt8} (hB : B ≤ w.heap.size) (hv : Oc w B vs q) (hr : IntKind.i16.wrap ver = ver) (h : Full (r.m ver (flexOf (some 0) ver)).w (q ++ s)) (hs : s ≠ []) (hl : q.length ≤ lim) (hI : EI w) : Calls Tryz.prog 18 #[.int .i64 ver, vs] w (CutP w) :=
  have k := cutM h hs hl
  (again hB hv hl hI hr k.1).mono fun e w' h => k.2 h
theorem any2 {ver : Int} {bs : List UInt8} (hr : IntKind.i16.wrap ver = ver) (hok : (r.m ver (flexOf (some 0) ver)).w.ok = true) (hl : bs.length ≤ 32767) :
    (∃ out, out.length ≤ bs.length ∧ Full (r.m ver (flexOf (some 0) ver)).w out ∧ ∀ {w : World} {vs : Value} {B : Nat}, B ≤ w.heap.size → Oc w B vs bs → EI w → Calls Tryz.prog 18 #[.int .i64 ver, vs] w (FullP 5 out w)) ∨
      ∀ {w : World} {vs : Value} {B : Nat}, B ≤ w.heap.size → Oc w B vs bs → EI w → Calls Tryz.prog 18 #[.int .i64 ver, vs] w (CutP w) := by
  have hf := (anyM hok hl).1
  have hll : bs.length ≤ lim := by unfold lim; omega
  rcases anyM2 hok hl with ⟨out, h1, h4, h5⟩ | h
  · exact .inl ⟨out, h1, h4, fun hB hv hI => (again hB hv hll hI hr hf).mono fun e w' h => h5 h⟩
  · exact .inr fun hB hv hI => (again hB hv hll hI hr hf).mono fun e w' hh => h hh
end Go.Proofs.YtjphodjbflgbaaaGreatDoor.Kf.MDeleteShareGroupOffsetsRequest
