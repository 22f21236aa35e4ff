/- DescribeClientQuotasResponse: its schema; what the thin package's functions over it come to. -/
import Derived.Test.YtcanhgcceagplaaGreatDoorMsgB
import Derived.Test.YtcanhgcceagplaaGreatDoorLawA
import Derived.Test.YtcanhgcceagplaaGreatDoorDfA
import Derived.Handy
import Derived.Test.YtcanhgcceagplaaGreatDoorTagC
import Derived.Test.YtcanhgcceagplaaGreatDoorTagG
import Derived.Test.YtcanhgcceagplaaGreatDoorKbT
import Derived.Test.YtcanhgcceagplaaGreatDoorKbW
namespace Go.Proofs.YtcanhgcceagplaaGreatDoor.Kf.MDescribeClientQuotasResponse
set_option linter.unusedVariables false
set_option linter.unusedSimpArgs false
set_option maxRecDepth 100000
open Go Go.RowKit

def r : R := .val .all 1 1 21 (.prim .i32 93) (.val .all 2 2 42 (.prim .i16 94) (.val .all 3 3 65 (.str3 true 95 96 97 98) (.arrS .all 4 4 66 56 [.slice none 0 0, .slice none 0 0, .map none] (.two 99 100) (some 0) 103 85 89 (.arrS .all 0 0 86 32 [.string ⟨#[]⟩, .pointer none, .map none] (.two 99 100) none 104 91 93 (.val .all 0 0 9 (.str2 false 105 106 107 108) (.val .all 1 1 65 (.str3 true 95 96 97 98) (.tags 2 2 69 109 .done))) (.arrS .all 1 1 87 32 [.string ⟨#[]⟩, .float .f64 0, .map none] (.two 99 100) none 110 96 99 (.val .all 0 0 9 (.str2 false 105 106 107 108) (.val .all 1 1 97 (.prim .f64 111) (.tags 2 2 69 109 .done))) (.tags 2 2 69 109 .done))) (.tags 5 5 69 109 .done))))
def a : A := .val .all 1 1 21 (.one (.prim .i32) 62) (.val .all 2 2 42 (.one (.prim .i16) 63) (.val .all 3 3 65 (.two (.str true true) (.str false true) 64 65) (.arrS .all 4 4 66 56 [.slice none 0 0, .slice none 0 0, .map none] (some 0) (.two true 66 67) 89 (.arrS .all 0 0 86 32 [.string ⟨#[]⟩, .pointer none, .map none] none (.two false 68 69) 93 (.val .all 0 0 9 (.two (.str true false) (.str false false) 70 71) (.val .all 1 1 65 (.two (.str true true) (.str false true) 64 65) (.tags 2 2 69 73 72 74 .done))) (.arrS .all 1 1 87 32 [.string ⟨#[]⟩, .float .f64 0, .map none] none (.two false 68 69) 99 (.val .all 0 0 9 (.two (.str true false) (.str false false) 70 71) (.val .all 1 1 97 (.one (.prim .f64) 75) (.tags 2 2 69 73 72 74 .done))) (.tags 2 2 69 73 72 74 .done))) (.tags 5 5 69 73 72 74 .done))))
noncomputable def bR : Code := (Tryz.f61.body).getD .skip
noncomputable def bW : Code := (Tryz.f30.body).getD .skip
noncomputable def bD : Code := (Tryz.f29.body).getD .skip
def M0 : Nat := (if ((some 1) : Option Int).isSome then 11 else 10) + r.k
def M1 : Nat := Nat.max ((if ((some 1) : Option Int).isSome then 7 else 6) + a.k) 7
theorem mwa : (fun ver => a.m ver (flexOf (some 1) ver)) = MwM r (some 1) := by
  funext ver
  unfold MwM
  generalize flexOf (some 1) ver = flex
  cases flex <;> rfl
theorem codeR : Tryz.f61.body = some (gRead gn 71 43 50 42 M0 none (some 1) r bR) := by kernel_rfl
theorem codeW : Tryz.f30.body = some (gWrite hn 71 42 M1 (some 1) a bW) := by kernel_rfl
theorem codeD : Tryz.f29.body = some (gRF 61 43 22 4 bD) := by kernel_rfl
theorem sz21 : (Tryz.prog.info? 21).map (·.size) = some 1 := by kernel_rfl
theorem fa71_1 : FieldAt Tryz.prog 71 1 1 21 1 := fieldAt_of Tryz.underlying71 rfl rfl rfl sz21 (by decide)
theorem sz42 : (Tryz.prog.info? 42).map (·.size) = some 1 := by kernel_rfl
theorem fa71_2 : FieldAt Tryz.prog 71 2 2 42 1 := fieldAt_of Tryz.underlying71 rfl rfl rfl sz42 (by decide)
theorem sz65 : (Tryz.prog.info? 65).map (·.size) = some 1 := by kernel_rfl
theorem fa71_3 : FieldAt Tryz.prog 71 3 3 65 1 := fieldAt_of Tryz.underlying71 rfl rfl rfl sz65 (by decide)
theorem sz66 : (Tryz.prog.info? 66).map (·.size) = some 1 := by kernel_rfl
theorem fa71_4 : FieldAt Tryz.prog 71 4 4 66 1 := fieldAt_of Tryz.underlying71 rfl rfl rfl sz66 (by decide)
theorem sl66 : Sl Tryz.prog 66 3 56 [.slice none 0 0, .slice none 0 0, .map none] := sl_of Tryz.underlying66 (by kernel_rfl) sz66 (by decide) rfl
theorem sz86 : (Tryz.prog.info? 86).map (·.size) = some 1 := by kernel_rfl
theorem fa89_0 : FieldAt Tryz.prog 89 0 0 86 1 := fieldAt_of Tryz.underlying89 rfl rfl rfl sz86 (by decide)
theorem sl86 : Sl Tryz.prog 86 3 32 [.string ⟨#[]⟩, .pointer none, .map none] := sl_of Tryz.underlying86 (by kernel_rfl) sz86 (by decide) rfl
theorem sz9 : (Tryz.prog.info? 9).map (·.size) = some 1 := by kernel_rfl
theorem fa93_0 : FieldAt Tryz.prog 93 0 0 9 1 := fieldAt_of Tryz.underlying93 rfl rfl rfl sz9 (by decide)
theorem fa93_1 : FieldAt Tryz.prog 93 1 1 65 1 := fieldAt_of Tryz.underlying93 rfl rfl rfl sz65 (by decide)
theorem sz69 : (Tryz.prog.info? 69).map (·.size) = some 1 := by kernel_rfl
theorem fa93_2 : FieldAt Tryz.prog 93 2 2 69 1 := fieldAt_of Tryz.underlying93 rfl rfl rfl sz69 (by decide)
theorem sz87 : (Tryz.prog.info? 87).map (·.size) = some 1 := by kernel_rfl
theorem fa89_1 : FieldAt Tryz.prog 89 1 1 87 1 := fieldAt_of Tryz.underlying89 rfl rfl rfl sz87 (by decide)
theorem sl87 : Sl Tryz.prog 87 3 32 [.string ⟨#[]⟩, .float .f64 0, .map none] := sl_of Tryz.underlying87 (by kernel_rfl) sz87 (by decide) rfl
theorem fa99_0 : FieldAt Tryz.prog 99 0 0 9 1 := fieldAt_of Tryz.underlying99 rfl rfl rfl sz9 (by decide)
theorem sz97 : (Tryz.prog.info? 97).map (·.size) = some 1 := by kernel_rfl
theorem fa99_1 : FieldAt Tryz.prog 99 1 1 97 1 := fieldAt_of Tryz.underlying99 rfl rfl rfl sz97 (by decide)
theorem fa99_2 : FieldAt Tryz.prog 99 2 2 69 1 := fieldAt_of Tryz.underlying99 rfl rfl rfl sz69 (by decide)
theorem fa89_2 : FieldAt Tryz.prog 89 2 2 69 1 := fieldAt_of Tryz.underlying89 rfl rfl rfl sz69 (by decide)
theorem fa71_5 : FieldAt Tryz.prog 71 5 5 69 1 := fieldAt_of Tryz.underlying71 rfl rfl rfl sz69 (by decide)
theorem one21 : One Tryz.prog 21 := one_of Tryz.underlying21 rfl sz21
theorem one42 : One Tryz.prog 42 := one_of Tryz.underlying42 rfl sz42
theorem one65 : One Tryz.prog 65 := one_of Tryz.underlying65 rfl sz65
theorem one9 : One Tryz.prog 9 := one_of Tryz.underlying9 rfl sz9
theorem one97 : One Tryz.prog 97 := one_of Tryz.underlying97 rfl sz97
theorem fa71_0 : FieldAt Tryz.prog 71 0 0 42 1 := fieldAt_of Tryz.underlying71 rfl rfl rfl sz42 (by decide)
theorem okR : r.ok Tryz.prog true 71 1 6 := ⟨by decide, NumC.rd (by decide) rd_int32, fun flex => fa71_1, ⟨by decide, NumC.rd (by decide) rd_int16, fun flex => fa71_2, ⟨by decide, ⟨rfl, rd_cnstring, rd_nstring⟩, fun flex => fa71_3, ⟨by decide, ⟨rfl, rd_calen, rd_alen⟩, fa71_4, sl66, by decide, (def_skip Tryz.func103 rfl rfl rfl), nils_ok rfl, ⟨by decide, ⟨rfl, rd_calen, rd_alen⟩, fa89_0, sl86, by decide, (def_skip Tryz.func104 rfl rfl rfl), nils_ok rfl, ⟨by decide, ⟨rfl, rd_cstring, rd_string⟩, fun flex => fa93_0, ⟨by decide, ⟨rfl, rd_cnstring, rd_nstring⟩, fun flex => fa93_1, ⟨by decide, rfl, rd_tags, fa93_2, done_ok (by decide)⟩⟩⟩, ⟨by decide, ⟨rfl, rd_calen, rd_alen⟩, fa89_1, sl87, by decide, (def_skip Tryz.func110 rfl rfl rfl), nils_ok rfl, ⟨by decide, ⟨rfl, rd_cstring, rd_string⟩, fun flex => fa99_0, ⟨by decide, NumC.rd (by decide) rd_f64, fun flex => fa99_1, ⟨by decide, rfl, rd_tags, fa99_2, done_ok (by decide)⟩⟩⟩, ⟨by decide, rfl, rd_tags, fa89_2, done_ok (by decide)⟩⟩⟩, ⟨by decide, rfl, rd_tags, fa71_5, done_ok (by decide)⟩⟩⟩⟩⟩
theorem okW : a.ok Tryz.prog 5 true true 71 := ⟨app_i32C, fun flex => ⟨fa71_1, (.inl ⟨one21, rfl, fun _ _ => rfl⟩)⟩, ⟨app_i16C, fun flex => ⟨fa71_2, (.inl ⟨one42, rfl, fun _ _ => rfl⟩)⟩, ⟨⟨rfl, app_cnstrC, app_nstrC⟩, fun flex => by cases flex <;> exact ⟨fa71_3, (.inl ⟨one65, rfl, fun _ _ => rfl⟩)⟩, ⟨rfl, ⟨rfl, len_cnull, len_null⟩, fa71_4, sl66, ⟨rfl, ⟨rfl, len_compact, len_plain⟩, fa89_0, sl86, ⟨⟨rfl, app_cstrC, app_strC⟩, fun flex => by cases flex <;> exact ⟨fa93_0, (.inl ⟨one9, rfl, fun _ _ => rfl⟩)⟩, ⟨⟨rfl, app_cnstrC, app_nstrC⟩, fun flex => by cases flex <;> exact ⟨fa93_1, (.inl ⟨one65, rfl, fun _ _ => rfl⟩)⟩, ⟨rfl, fa93_2, tags_len, app_uvarint, tags_each, trivial⟩⟩⟩, ⟨rfl, ⟨rfl, len_compact, len_plain⟩, fa89_1, sl87, ⟨⟨rfl, app_cstrC, app_strC⟩, fun flex => by cases flex <;> exact ⟨fa99_0, (.inl ⟨one9, rfl, fun _ _ => rfl⟩)⟩, ⟨app_f64C, fun flex => ⟨fa99_1, (.inl ⟨one97, rfl, fun _ _ => rfl⟩)⟩, ⟨rfl, fa99_2, tags_len, app_uvarint, tags_each, trivial⟩⟩⟩, ⟨rfl, fa89_2, tags_len, app_uvarint, tags_each, trivial⟩⟩⟩, ⟨rfl, fa71_5, tags_len, app_uvarint, tags_each, trivial⟩⟩⟩⟩⟩
theorem msgR : MsgR Tryz.prog gn 71 43 50 42 M0 Tryz.f61.ntmps 6 6 none (some 1) r EI :=
  ⟨rd_ok, rd_completeE, und_i32, rdrT, one_i16, fa71_0, (def_skip Tryz.func50 rfl rfl rfl), fun F h => (by cases h), okR, by decide, by decide, by decide, rfl, by decide⟩
theorem msgW : MsgW Tryz.prog hn true 71 42 M1 Tryz.f30.ntmps (some 1) a := ⟨und_int, und_u32, one_i16, fa71_0, okW, rfl, by decide, by decide⟩
theorem plain_of {F : Nat} {fn : Func} (hf : Tryz.prog.funcs[F]? = some fn) (hb : fn.body.isNone = false) (hn : (fn.name == "runtime.NumGoroutine") = false) : Plain Tryz.prog F := ⟨fn, hf, hb, hn⟩
theorem agc : AgC Tryz.prog 5 22 52 29 30 1 EI none (some 1) r (MwM r (some 1)) vlM 6 :=
  mwa ▸ AgC.mk' (sl := 22) (bo := 4) msgR msgW Tryz.func61 bR codeR Tryz.results61 rfl (plain_of Tryz.func61 rfl rfl) Tryz.func29 bD codeD Tryz.results29 Tryz.ntmps29 (plain_of Tryz.func29 rfl rfl)
    Tryz.func30 bW codeW Tryz.results30 rfl (plain_of Tryz.func30 rfl rfl) Tryz.underlying22 info_u8 Tryz.underlying52 (errI_keep (L := 1 + 1) (Nat.lt_succ_self _)) (fun w h => h.2) vlM
    (fun w D b lo hi ver x bs bs0 ver0 hv hc hH => by have e : a.m ver (flexOf (some 1) ver) = MwM r (some 1) ver := congrFun mwa ver; rw [e]; exact hH)
noncomputable def bP : Code := (Tryz.f24.body).getD .skip
noncomputable def bS : Code := (Tryz.f28.body).getD .skip
noncomputable def bV : Code := (Tryz.f25.body).getD .skip
noncomputable def bX : Code := (Tryz.f8.body).getD .skip
theorem codeP : Tryz.f24.body = some (gNP 50 71 43 bP) := by kernel_rfl
theorem codeS : Tryz.f28.body = some (gSV 71 42 bS) := by kernel_rfl
theorem codeV : Tryz.f25.body = some (gK (.int .i16 0) (.int .i16 1) bV) := by kernel_rfl
theorem codeX : Tryz.f8.body = some (gMx 24 25 43 42 3 bX) := by kernel_rfl
theorem alc : Alc Tryz.prog 71 #[.int .i16 0, .int .i32 0, .int .i16 0, .pointer none, .slice none 0 0, .map none] := fun o a w h => by
  obtain ⟨d, op, t, p, af, g⟩ := o
  simp only at h
  subst h
  kernel_rfl
theorem new_calls (w : World) : Calls Tryz.prog 24 #[] w fun e w' => e = .returned (.pointer (some ⟨w.heap.size, 0, none⟩)) ∧ Only (fun _ => False) w w' ∧ Blk w' w.heap.size 6 ∧ ∀ q ∈ r.nils, w'.cell? ⟨w.heap.size, q.1, none⟩ = some (nilV q.2) :=
  (NP_calls (ks := 0 :: r.nils.map Prod.fst) Tryz.func24 bP codeP Tryz.results24 Tryz.ntmps24 alc rfl (def_skip Tryz.func50 rfl rfl rfl)).mono fun e w' h => ⟨h.1, h.2.1, h.2.2.1, fun q hq => (h.2.2.2 q.1 (List.mem_cons_of_mem _ (List.mem_map_of_mem hq))).trans (nilsZ rfl q hq)⟩
theorem set_calls (w : World) (b : Nat) (n : Int) (hb : Blk w b 6) : Calls Tryz.prog 28 #[.pointer (some ⟨b, 0, none⟩), .int .i16 n] w fun e w' => e = .returned (.tuple #[]) ∧ Only (· = b) w w' ∧ Upd b 0 1 w w' ∧ w'.cell? ⟨b, 0, none⟩ = some (.int .i16 n) :=
  SV_calls Tryz.func28 bS codeS Tryz.results28 Tryz.ntmps28 fa71_0 hb (by decide)
theorem max_calls (w : World) : Calls Tryz.prog 8 #[] w fun e w' => e = .returned (.int .i64 1) ∧ Only (fun _ => False) w w' :=
  Mx_calls Tryz.func8 bX codeX Tryz.results8 Tryz.ntmps8 und_int Tryz.underlying42 (plain_of Tryz.func24 rfl rfl) (plain_of Tryz.func25 rfl rfl) ((new_calls w).mono fun e w' h => ⟨_, h.1, h.2.1⟩) fun v w' => K_calls Tryz.func25 bV codeV Tryz.results25 Tryz.ntmps25
noncomputable def bA : Code := (Tryz.f12.body).getD .skip
theorem codeA : Tryz.f12.body = some (gAgM 24 28 29 30 43 22 52 52 3 42 bA) := by kernel_rfl
/-- What impl.AgainDescribeClientQuotasResponse comes to. -/
theorem again {w : World} {ver : Int} {vs : Value} {B : Nat} {bs : List UInt8} (hB : B ≤ w.heap.size) (hv : Oc w B vs bs) (hl : bs.length ≤ lim) (hI : EI w) (hr : IntKind.i16.wrap ver = ver) (hf : Fits none (some 1) ver r (MwM r (some 1)) vlM bs) :
    Calls Tryz.prog 12 #[.int .i64 ver, vs] w (AgQ 5 none (some 1) ver r (MwM r (some 1)) vlM w bs) :=
  AgM_calls agc Tryz.func12 bA codeA Tryz.results12 Tryz.ntmps12 (plain_of Tryz.func24 rfl rfl) (plain_of Tryz.func28 rfl rfl) und_int Tryz.underlying42 (by decide) (by decide) new_calls set_calls hB hv hl hI hr hf
theorem ei_up {w w' : World} (h : EI w) (O : Only (fun _ => False) w w') : EI w' := agc.keep w w' h (O.mono fun _ _ h => h.elim)
theorem full {w : World} {vs : Value} {B : Nat} {ver : Int} {bs : List UInt8} (hB : B ≤ w.heap.size) (hv : Oc w B vs bs) (hr : IntKind.i16.wrap ver = ver) (h : Full (r.m ver (flexOf (some 1) ver)).w bs) (hl : bs.length ≤ lim) (hI : EI w) : Calls Tryz.prog 12 #[.int .i64 ver, vs] w (FullP 5 bs w) :=
  have k := fullM h (by unfold lim at hl; unfold lim2; omega)
  (again hB hv hl hI hr k.1).mono fun e w' h => fullP_of (k.2 h)
theorem cut {w : World} {vs : Value} {B : Nat} {ver : Int} {q s : List UInt8} (hB : B ≤ w.heap.size) (hv : Oc w B vs q) (hr : IntKind.i16.wrap ver = ver) (h : Full (r.m ver (flexOf (some 1) ver)).w (q ++ s)) (hs : s ≠ []) (hl : q.length ≤ lim) (hI : EI w) : Calls Tryz.prog 12 #[.int .i64 ver, vs] w (CutP w) :=
  have k := cutM h hs hl
  (again hB hv hl hI hr k.1).mono fun e w' h => k.2 h
theorem any2 {ver : Int} {bs : List UInt8} (hr : IntKind.i16.wrap ver = ver) (hok : (r.m ver (flexOf (some 1) ver)).w.ok = true) (hl : bs.length ≤ 32767) :
    (∃ out, out.length ≤ bs.length ∧ Full (r.m ver (flexOf (some 1) ver)).w out ∧ ∀ {w : World} {vs : Value} {B : Nat}, B ≤ w.heap.size → Oc w B vs bs → EI w → Calls Tryz.prog 12 #[.int .i64 ver, vs] w (FullP 5 out w)) ∨
      ∀ {w : World} {vs : Value} {B : Nat}, B ≤ w.heap.size → Oc w B vs bs → EI w → Calls Tryz.prog 12 #[.int .i64 ver, vs] w (CutP w) := by
  have hf := (anyM hok hl).1
  have hll : bs.length ≤ lim := by unfold lim; omega
  rcases anyM2 hok hl with ⟨out, h1, h4, h5⟩ | h
  · exact .inl ⟨out, h1, h4, fun hB hv hI => (again hB hv hll hI hr hf).mono fun e w' h => h5 h⟩
  · exact .inr fun hB hv hI => (again hB hv hll hI hr hf).mono fun e w' hh => h hh
end Go.Proofs.YtcanhgcceagplaaGreatDoor.Kf.MDescribeClientQuotasResponse
