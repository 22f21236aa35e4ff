/- ListConfigResourcesResponse: its schema; what the thin package's functions over it come to. -/
import Derived.Test.YtjphodjbflgbaaaGreatDoorMsgB
import Derived.Test.YtjphodjbflgbaaaGreatDoorLawA
import Derived.Test.YtjphodjbflgbaaaGreatDoorDfA
import Derived.Handy
import Derived.Test.YtjphodjbflgbaaaGreatDoorTagC
import Derived.Test.YtjphodjbflgbaaaGreatDoorTagG
import Derived.Test.YtjphodjbflgbaaaGreatDoorKbT
namespace Go.Proofs.YtjphodjbflgbaaaGreatDoor.Kf.MListConfigResourcesResponse
set_option linter.unusedVariables false
set_option linter.unusedSimpArgs false
set_option maxRecDepth 100000
open Go Go.RowKit

def r : R := .val .all 1 1 21 (.prim .i32 123) (.val .all 2 2 42 (.prim .i16 113) (.arrS .all 3 3 98 32 [.string ⟨#[]⟩, .int .i8 0, .map none] (.two 114 115) none 131 101 104 (.val .all 0 0 9 (.str2 false 119 120 121 122) (.val (.ge 1) 1 1 102 (.prim .i8 132) (.tags 2 2 72 124 .done))) (.tags 4 4 72 124 .done)))
def a : A := .val .all 1 1 21 (.one (.prim .i32) 86) (.val .all 2 2 42 (.one (.prim .i16) 81) (.arrS .all 3 3 98 32 [.string ⟨#[]⟩, .int .i8 0, .map none] none (.two false 82 83) 104 (.val .all 0 0 9 (.two (.str true false) (.str false false) 84 85) (.val (.ge 1) 1 1 102 (.one (.prim .i8) 94) (.tags 2 2 72 88 87 89 .done))) (.tags 4 4 72 88 87 89 .done)))
noncomputable def bR : Code := (Tryz.f93.body).getD .skip
noncomputable def bW : Code := (Tryz.f50.body).getD .skip
noncomputable def bD : Code := (Tryz.f49.body).getD .skip
def M0 : Nat := (if ((some 0) : Option Int).isSome then 11 else 10) + r.k
def M1 : Nat := Nat.max ((if ((some 0) : Option Int).isSome then 7 else 6) + a.k) 7
theorem mwa : (fun ver => a.m ver (flexOf (some 0) ver)) = MwM r (some 0) := by
  funext ver
  unfold MwM
  generalize flexOf (some 0) ver = flex
  cases flex <;> rfl
theorem codeR : Tryz.f93.body = some (gRead gn 100 57 92 42 M0 none (some 0) r bR) := by kernel_rfl
theorem codeW : Tryz.f50.body = some (gWrite hn 100 42 M1 (some 0) a bW) := by kernel_rfl
theorem codeD : Tryz.f49.body = some (gRF 93 57 22 4 bD) := by kernel_rfl
theorem sz21 : (Tryz.prog.info? 21).map (·.size) = some 1 := by kernel_rfl
theorem fa100_1 : FieldAt Tryz.prog 100 1 1 21 1 := fieldAt_of Tryz.underlying100 rfl rfl rfl sz21 (by decide)
theorem sz42 : (Tryz.prog.info? 42).map (·.size) = some 1 := by kernel_rfl
theorem fa100_2 : FieldAt Tryz.prog 100 2 2 42 1 := fieldAt_of Tryz.underlying100 rfl rfl rfl sz42 (by decide)
theorem sz98 : (Tryz.prog.info? 98).map (·.size) = some 1 := by kernel_rfl
theorem fa100_3 : FieldAt Tryz.prog 100 3 3 98 1 := fieldAt_of Tryz.underlying100 rfl rfl rfl sz98 (by decide)
theorem sl98 : Sl Tryz.prog 98 3 32 [.string ⟨#[]⟩, .int .i8 0, .map none] := sl_of Tryz.underlying98 (by kernel_rfl) sz98 (by decide) rfl
theorem sz9 : (Tryz.prog.info? 9).map (·.size) = some 1 := by kernel_rfl
theorem fa104_0 : FieldAt Tryz.prog 104 0 0 9 1 := fieldAt_of Tryz.underlying104 rfl rfl rfl sz9 (by decide)
theorem sz102 : (Tryz.prog.info? 102).map (·.size) = some 1 := by kernel_rfl
theorem fa104_1 : FieldAt Tryz.prog 104 1 1 102 1 := fieldAt_of Tryz.underlying104 rfl rfl rfl sz102 (by decide)
theorem sz72 : (Tryz.prog.info? 72).map (·.size) = some 1 := by kernel_rfl
theorem fa104_2 : FieldAt Tryz.prog 104 2 2 72 1 := fieldAt_of Tryz.underlying104 rfl rfl rfl sz72 (by decide)
def dl_ListConfigResourcesResponseConfigResource : List DS := [⟨1, 1, 102, .int .i8 (16)⟩]
noncomputable def bDf_ListConfigResourcesResponseConfigResource : Code := (Tryz.f131.body).getD .skip
theorem def_ListConfigResourcesResponseConfigResource : DefC Tryz.prog 131 3 [] :=
  def_set (T := 104) (l := dl_ListConfigResourcesResponseConfigResource) Tryz.func131 bDf_ListConfigResourcesResponseConfigResource (by kernel_rfl) Tryz.results131 Tryz.ntmps131 (by decide) rfl (fun x hx => by
    simp only [dl_ListConfigResourcesResponseConfigResource, List.mem_cons, List.not_mem_nil, or_false] at hx
    subst hx; exact ⟨fa104_1, rfl, rfl, by decide, by decide⟩)
theorem fa100_4 : FieldAt Tryz.prog 100 4 4 72 1 := fieldAt_of Tryz.underlying100 rfl rfl rfl sz72 (by decide)
theorem one21 : One Tryz.prog 21 := one_of Tryz.underlying21 rfl sz21
theorem one42 : One Tryz.prog 42 := one_of Tryz.underlying42 rfl sz42
theorem one9 : One Tryz.prog 9 := one_of Tryz.underlying9 rfl sz9
theorem one102 : One Tryz.prog 102 := one_of Tryz.underlying102 rfl sz102
theorem fa100_0 : FieldAt Tryz.prog 100 0 0 42 1 := fieldAt_of Tryz.underlying100 rfl rfl rfl sz42 (by decide)
theorem okR : r.ok Tryz.prog true 100 1 5 := ⟨by decide, NumC.rd (by decide) rd_int32, fun flex => fa100_1, ⟨by decide, NumC.rd (by decide) rd_int16, fun flex => fa100_2, ⟨by decide, ⟨rfl, rd_calen, rd_alen⟩, fa100_3, sl98, by decide, def_ListConfigResourcesResponseConfigResource, nils_ok rfl, ⟨by decide, ⟨rfl, rd_cstring, rd_string⟩, fun flex => fa104_0, ⟨by decide, NumC.rd (by decide) rd_int8, fun flex => fa104_1, ⟨by decide, rfl, rd_tags, fa104_2, done_ok (by decide)⟩⟩⟩, ⟨by decide, rfl, rd_tags, fa100_4, done_ok (by decide)⟩⟩⟩⟩
theorem okW : a.ok Tryz.prog 5 true true 100 := ⟨app_i32C, fun flex => ⟨fa100_1, (.inl ⟨one21, rfl, fun _ _ => rfl⟩)⟩, ⟨app_i16C, fun flex => ⟨fa100_2, (.inl ⟨one42, rfl, fun _ _ => rfl⟩)⟩, ⟨rfl, ⟨rfl, len_compact, len_plain⟩, fa100_3, sl98, ⟨⟨rfl, app_cstrC, app_strC⟩, fun flex => by cases flex <;> exact ⟨fa104_0, (.inl ⟨one9, rfl, fun _ _ => rfl⟩)⟩, ⟨app_i8C, fun flex => ⟨fa104_1, (.inl ⟨one102, rfl, fun _ _ => rfl⟩)⟩, ⟨rfl, fa104_2, tags_len, app_uvarint, tags_each, trivial⟩⟩⟩, ⟨rfl, fa100_4, tags_len, app_uvarint, tags_each, trivial⟩⟩⟩⟩
theorem msgR : MsgR Tryz.prog gn 100 57 92 42 M0 Tryz.f93.ntmps 5 5 none (some 0) r EI :=
  ⟨rd_ok, rd_completeE, und_i32, rdrT, one_i16, fa100_0, (def_skip Tryz.func92 rfl rfl rfl), fun F h => (by cases h), okR, by decide, by decide, by decide, rfl, by decide⟩
theorem msgW : MsgW Tryz.prog hn true 100 42 M1 Tryz.f50.ntmps (some 0) a := ⟨und_int, und_u32, one_i16, fa100_0, okW, rfl, by decide, by decide⟩
theorem plain_of {F : Nat} {fn : Func} (hf : Tryz.prog.funcs[F]? = some fn) (hb : fn.body.isNone = false) (hn : (fn.name == "runtime.NumGoroutine") = false) : Plain Tryz.prog F := ⟨fn, hf, hb, hn⟩
theorem agc : AgC Tryz.prog 5 22 52 49 50 1 EI none (some 0) r (MwM r (some 0)) vlM 5 :=
  mwa ▸ AgC.mk' (sl := 22) (bo := 4) msgR msgW Tryz.func93 bR codeR Tryz.results93 rfl (plain_of Tryz.func93 rfl rfl) Tryz.func49 bD codeD Tryz.results49 Tryz.ntmps49 (plain_of Tryz.func49 rfl rfl)
    Tryz.func50 bW codeW Tryz.results50 rfl (plain_of Tryz.func50 rfl rfl) Tryz.underlying22 info_u8 Tryz.underlying52 (errI_keep (L := 1 + 1) (Nat.lt_succ_self _)) (fun w h => h.2) vlM
    (fun w D b lo hi ver x bs bs0 ver0 hv hc hH => by have e : a.m ver (flexOf (some 0) ver) = MwM r (some 0) ver := congrFun mwa ver; rw [e]; exact hH)
noncomputable def bP : Code := (Tryz.f45.body).getD .skip
noncomputable def bS : Code := (Tryz.f48.body).getD .skip
noncomputable def bV : Code := (Tryz.f46.body).getD .skip
noncomputable def bX : Code := (Tryz.f19.body).getD .skip
theorem codeP : Tryz.f45.body = some (gNP 92 100 57 bP) := by kernel_rfl
theorem codeS : Tryz.f48.body = some (gSV 100 42 bS) := by kernel_rfl
theorem codeV : Tryz.f46.body = some (gK (.int .i16 0) (.int .i16 1) bV) := by kernel_rfl
theorem codeX : Tryz.f19.body = some (gMx 45 46 57 42 3 bX) := by kernel_rfl
theorem alc : Alc Tryz.prog 100 #[.int .i16 0, .int .i32 0, .int .i16 0, .slice none 0 0, .map none] := fun o a w h => by
  obtain ⟨d, op, t, p, af, g⟩ := o
  simp only at h
  subst h
  kernel_rfl
theorem new_calls (w : World) : Calls Tryz.prog 45 #[] w fun e w' => e = .returned (.pointer (some ⟨w.heap.size, 0, none⟩)) ∧ Only (fun _ => False) w w' ∧ Blk w' w.heap.size 5 ∧ ∀ q ∈ r.nils, w'.cell? ⟨w.heap.size, q, none⟩ = some (.slice none 0 0) :=
  (NP_calls (ks := 0 :: r.nils) Tryz.func45 bP codeP Tryz.results45 Tryz.ntmps45 alc rfl (def_skip Tryz.func92 rfl rfl rfl)).mono fun e w' h => ⟨h.1, h.2.1, h.2.2.1, fun q hq => (h.2.2.2 q (List.mem_cons_of_mem _ hq)).trans (nilsZ rfl q hq)⟩
theorem set_calls (w : World) (b : Nat) (n : Int) (hb : Blk w b 5) : Calls Tryz.prog 48 #[.pointer (some ⟨b, 0, none⟩), .int .i16 n] w fun e w' => e = .returned (.tuple #[]) ∧ Only (· = b) w w' ∧ Upd b 0 1 w w' ∧ w'.cell? ⟨b, 0, none⟩ = some (.int .i16 n) :=
  SV_calls Tryz.func48 bS codeS Tryz.results48 Tryz.ntmps48 fa100_0 hb (by decide)
theorem max_calls (w : World) : Calls Tryz.prog 19 #[] w fun e w' => e = .returned (.int .i64 1) ∧ Only (fun _ => False) w w' :=
  Mx_calls Tryz.func19 bX codeX Tryz.results19 Tryz.ntmps19 und_int Tryz.underlying42 (plain_of Tryz.func45 rfl rfl) (plain_of Tryz.func46 rfl rfl) ((new_calls w).mono fun e w' h => ⟨_, h.1, h.2.1⟩) fun v w' => K_calls Tryz.func46 bV codeV Tryz.results46 Tryz.ntmps46
noncomputable def bA : Code := (Tryz.f21.body).getD .skip
theorem codeA : Tryz.f21.body = some (gAgM 45 48 49 50 57 22 52 52 3 42 bA) := by kernel_rfl
/-- What impl.AgainListConfigResourcesResponse comes to. -/
theorem again {w : World} {ver : Int} {vs : Value} {B : Nat} {bs : List UInt8} (hB : B ≤ w.heap.size) (hv : Oc w B vs bs) (hl : bs.length ≤ lim) (hI : EI w) (hr : IntKind.i16.wrap ver = ver) (hf : Fits none (some 0) ver r (MwM r (some 0)) vlM bs) :
    Calls Tryz.prog 21 #[.int .i64 ver, vs] w (AgQ 5 none (some 0) ver r (MwM r (some 0)) vlM w bs) :=
  AgM_calls agc Tryz.func21 bA codeA Tryz.results21 Tryz.ntmps21 (plain_of Tryz.func45 rfl rfl) (plain_of Tryz.func48 rfl rfl) und_int Tryz.underlying42 (by decide) (by decide) new_calls set_calls hB hv hl hI hr hf
theorem ei_up {w w' : World} (h : EI w) (O : Only (fun _ => False) w w') : EI w' := agc.keep w w' h (O.mono fun _ _ h => h.elim)
theorem full {w : World} {vs : Value} {B : Nat} {ver : Int} {bs : List UInt8} (hB : B ≤ w.heap.size) (hv : Oc w B vs bs) (hr : IntKind.i16.wrap ver = ver) (h : Full (r.m ver (flexOf (some 0) ver)).w bs) (hl : bs.length ≤ lim) (hI : EI w) : Calls Tryz.prog 21 #[.int .i64 ver, vs] w (FullP 5 bs w) :=
  have k := fullM h (by unfold lim at hl; unfold lim2; omega)
  (again hB hv hl hI hr k.1).mono fun e w' h => fullP_of (k.2 h)
theorem cut {w : World} {vs : Value} {B : Nat} {ver : Int} {q s : List UInt8} (hB : B ≤ w.heap.size) (hv : Oc w B vs q) (hr : IntKind.i16.wrap ver = ver) (h : Full (r.m ver (flexOf (some 0) ver)).w (q ++ s)) (hs : s ≠ []) (hl : q.length ≤ lim) (hI : EI w) : Calls Tryz.prog 21 #[.int .i64 ver, vs] w (CutP w) :=
  have k := cutM h hs hl
  (again hB hv hl hI hr k.1).mono fun e w' h => k.2 h
theorem any2 {ver : Int} {bs : List UInt8} (hr : IntKind.i16.wrap ver = ver) (hok : (r.m ver (flexOf (some 0) ver)).w.ok = true) (hl : bs.length ≤ 32767) :
    (∃ out, out.length ≤ bs.length ∧ Full (r.m ver (flexOf (some 0) ver)).w out ∧ ∀ {w : World} {vs : Value} {B : Nat}, B ≤ w.heap.size → Oc w B vs bs → EI w → Calls Tryz.prog 21 #[.int .i64 ver, vs] w (FullP 5 out w)) ∨
      ∀ {w : World} {vs : Value} {B : Nat}, B ≤ w.heap.size → Oc w B vs bs → EI w → Calls Tryz.prog 21 #[.int .i64 ver, vs] w (CutP w) := by
  have hf := (anyM hok hl).1
  have hll : bs.length ≤ lim := by unfold lim; omega
  rcases anyM2 hok hl with ⟨out, h1, h4, h5⟩ | h
  · exact .inl ⟨out, h1, h4, fun hB hv hI => (again hB hv hll hI hr hf).mono fun e w' h => h5 h⟩
  · exact .inr fun hB hv hI => (again hB hv hll hI hr hf).mono fun e w' hh => h hh
end Go.Proofs.YtjphodjbflgbaaaGreatDoor.Kf.MListConfigResourcesResponse
