/- AlterShareGroupOffsetsResponse: its schema; what the thin package's functions over it come to. -/
import Derived.Test.YtjphodjbflgbaaaDoorMsgB
import Derived.Test.YtjphodjbflgbaaaDoorLawA
import Derived.Test.YtjphodjbflgbaaaDoorDfA
import Derived.Handy
import Derived.Test.YtjphodjbflgbaaaDoorTagC
import Derived.Test.YtjphodjbflgbaaaDoorTagG
import Derived.Test.YtjphodjbflgbaaaDoorKbT
import Derived.Test.YtjphodjbflgbaaaDoorKbV
namespace Go.Proofs.YtjphodjbflgbaaaDoor.Kf.MAlterShareGroupOffsetsResponse
set_option linter.unusedVariables false
set_option linter.unusedSimpArgs false
set_option maxRecDepth 100000
open Go Go.RowKit

def r : R := .val .all 1 1 21 (.prim .i32 93) (.val .all 2 2 41 (.prim .i16 102) (.val .all 3 3 99 (.str3 true 98 99 100 101) (.arrS .all 4 4 103 64 [.string ⟨#[]⟩, .int .u8 0, .int .u8 0, .int .u8 0, .int .u8 0, .int .u8 0, .int .u8 0, .int .u8 0, .int .u8 0, .int .u8 0, .int .u8 0, .int .u8 0, .int .u8 0, .int .u8 0, .int .u8 0, .int .u8 0, .int .u8 0, .slice none 0 0, .map none] (.two 88 89) none 103 107 110 (.val .all 0 0 9 (.str2 false 84 85 86 87) (.val .all 1 1 63 (.uid 78 63) (.arrS .all 2 17 108 24 [.int .i32 0, .int .i16 0, .pointer none, .map none] (.two 88 89) none 104 111 113 (.val .all 0 0 21 (.prim .i32 93) (.val .all 1 1 41 (.prim .i16 102) (.val .all 2 2 99 (.str3 true 98 99 100 101) (.tags 3 3 66 79 .done)))) (.tags 3 18 66 79 .done)))) (.tags 5 5 66 79 .done))))
def a : A := .val .all 1 1 21 (.one (.prim .i32) 63) (.val .all 2 2 41 (.one (.prim .i16) 71) (.val .all 3 3 99 (.two (.str true true) (.str false true) 67 68) (.arrS .all 4 4 103 64 [.string ⟨#[]⟩, .int .u8 0, .int .u8 0, .int .u8 0, .int .u8 0, .int .u8 0, .int .u8 0, .int .u8 0, .int .u8 0, .int .u8 0, .int .u8 0, .int .u8 0, .int .u8 0, .int .u8 0, .int .u8 0, .int .u8 0, .int .u8 0, .slice none 0 0, .map none] none (.two false 61 62) 110 (.val .all 0 0 9 (.two (.str true false) (.str false false) 59 60) (.val .all 1 1 63 (.uid 53 63) (.arrS .all 2 17 108 24 [.int .i32 0, .int .i16 0, .pointer none, .map none] none (.two false 61 62) 113 (.val .all 0 0 21 (.one (.prim .i32) 63) (.val .all 1 1 41 (.one (.prim .i16) 71) (.val .all 2 2 99 (.two (.str true true) (.str false true) 67 68) (.tags 3 3 66 55 54 56 .done)))) (.tags 3 18 66 55 54 56 .done)))) (.tags 5 5 66 55 54 56 .done))))
noncomputable def bR : Code := (Tryd.f70.body).getD .skip
noncomputable def bW : Code := (Tryd.f41.body).getD .skip
noncomputable def bD : Code := (Tryd.f40.body).getD .skip
def M0 : Nat := (if ((some 0) : Option Int).isSome then 11 else 10) + r.k
def M1 : Nat := Nat.max ((if ((some 0) : Option Int).isSome then 7 else 6) + a.k) 7
theorem mwa : (fun ver => a.m ver (flexOf (some 0) ver)) = MwM r (some 0) := by
  funext ver
  unfold MwM
  generalize flexOf (some 0) ver = flex
  cases flex <;> rfl
theorem codeR : Tryd.f70.body = some (gRead gn 105 57 69 41 M0 none (some 0) r bR) := by kernel_rfl
theorem codeW : Tryd.f41.body = some (gWrite hn 105 41 M1 (some 0) a bW) := by kernel_rfl
theorem codeD : Tryd.f40.body = some (gRF 70 57 22 4 bD) := by kernel_rfl
theorem sz21 : (Tryd.prog.info? 21).map (·.size) = some 1 := by kernel_rfl
theorem fa105_1 : FieldAt Tryd.prog 105 1 1 21 1 := fieldAt_of Tryd.underlying105 rfl rfl rfl sz21 (by decide)
theorem sz41 : (Tryd.prog.info? 41).map (·.size) = some 1 := by kernel_rfl
theorem fa105_2 : FieldAt Tryd.prog 105 2 2 41 1 := fieldAt_of Tryd.underlying105 rfl rfl rfl sz41 (by decide)
theorem sz99 : (Tryd.prog.info? 99).map (·.size) = some 1 := by kernel_rfl
theorem fa105_3 : FieldAt Tryd.prog 105 3 3 99 1 := fieldAt_of Tryd.underlying105 rfl rfl rfl sz99 (by decide)
theorem sz103 : (Tryd.prog.info? 103).map (·.size) = some 1 := by kernel_rfl
theorem fa105_4 : FieldAt Tryd.prog 105 4 4 103 1 := fieldAt_of Tryd.underlying105 rfl rfl rfl sz103 (by decide)
theorem sl103 : Sl Tryd.prog 103 19 64 [.string ⟨#[]⟩, .int .u8 0, .int .u8 0, .int .u8 0, .int .u8 0, .int .u8 0, .int .u8 0, .int .u8 0, .int .u8 0, .int .u8 0, .int .u8 0, .int .u8 0, .int .u8 0, .int .u8 0, .int .u8 0, .int .u8 0, .int .u8 0, .slice none 0 0, .map none] := sl_of Tryd.underlying103 (by kernel_rfl) sz103 (by decide) rfl
theorem sz9 : (Tryd.prog.info? 9).map (·.size) = some 1 := by kernel_rfl
theorem fa110_0 : FieldAt Tryd.prog 110 0 0 9 1 := fieldAt_of Tryd.underlying110 rfl rfl rfl sz9 (by decide)
theorem sz63 : (Tryd.prog.info? 63).map (·.size) = some 16 := by kernel_rfl
theorem fa110_1 : FieldAt Tryd.prog 110 1 1 63 16 := fieldAt_of Tryd.underlying110 rfl rfl rfl sz63 (by decide)
theorem bx16 : BxT Tryd.prog 63 16 where
  alc := ⟨#[.int .u8 0, .int .u8 0, .int .u8 0, .int .u8 0, .int .u8 0, .int .u8 0, .int .u8 0, .int .u8 0, .int .u8 0, .int .u8 0, .int .u8 0, .int .u8 0, .int .u8 0, .int .u8 0, .int .u8 0, .int .u8 0], rfl, fun o a w h => by
    obtain ⟨d, op, t, p, af, g⟩ := o
    simp only at h
    subst h
    kernel_rfl⟩
  sz := info_of sz63
  desc := ⟨_, Tryd.underlying63, rfl⟩
theorem sz108 : (Tryd.prog.info? 108).map (·.size) = some 1 := by kernel_rfl
theorem fa110_2 : FieldAt Tryd.prog 110 2 17 108 1 := fieldAt_of Tryd.underlying110 rfl rfl rfl sz108 (by decide)
theorem sl108 : Sl Tryd.prog 108 4 24 [.int .i32 0, .int .i16 0, .pointer none, .map none] := sl_of Tryd.underlying108 (by kernel_rfl) sz108 (by decide) rfl
theorem fa113_0 : FieldAt Tryd.prog 113 0 0 21 1 := fieldAt_of Tryd.underlying113 rfl rfl rfl sz21 (by decide)
theorem fa113_1 : FieldAt Tryd.prog 113 1 1 41 1 := fieldAt_of Tryd.underlying113 rfl rfl rfl sz41 (by decide)
theorem fa113_2 : FieldAt Tryd.prog 113 2 2 99 1 := fieldAt_of Tryd.underlying113 rfl rfl rfl sz99 (by decide)
theorem sz66 : (Tryd.prog.info? 66).map (·.size) = some 1 := by kernel_rfl
theorem fa113_3 : FieldAt Tryd.prog 113 3 3 66 1 := fieldAt_of Tryd.underlying113 rfl rfl rfl sz66 (by decide)
theorem fa110_3 : FieldAt Tryd.prog 110 3 18 66 1 := fieldAt_of Tryd.underlying110 rfl rfl rfl sz66 (by decide)
theorem fa105_5 : FieldAt Tryd.prog 105 5 5 66 1 := fieldAt_of Tryd.underlying105 rfl rfl rfl sz66 (by decide)
theorem one21 : One Tryd.prog 21 := one_of Tryd.underlying21 rfl sz21
theorem one41 : One Tryd.prog 41 := one_of Tryd.underlying41 rfl sz41
theorem one99 : One Tryd.prog 99 := one_of Tryd.underlying99 rfl sz99
theorem one9 : One Tryd.prog 9 := one_of Tryd.underlying9 rfl sz9
theorem fa105_0 : FieldAt Tryd.prog 105 0 0 41 1 := fieldAt_of Tryd.underlying105 rfl rfl rfl sz41 (by decide)
theorem okR : r.ok Tryd.prog true 105 1 6 := ⟨by decide, NumC.rd (by decide) rd_int32, fun flex => fa105_1, ⟨by decide, NumC.rd (by decide) rd_int16, fun flex => fa105_2, ⟨by decide, ⟨rfl, rd_cnstring, rd_nstring⟩, fun flex => fa105_3, ⟨by decide, ⟨rfl, rd_calen, rd_alen⟩, fa105_4, sl103, by decide, (def_skip Tryd.func103 rfl rfl rfl), nils_ok rfl, ⟨by decide, ⟨rfl, rd_cstring, rd_string⟩, fun flex => fa110_0, ⟨by decide, ⟨rd_uuid, bx16⟩, fun flex => fa110_1, ⟨by decide, ⟨rfl, rd_calen, rd_alen⟩, fa110_2, sl108, by decide, (def_skip Tryd.func104 rfl rfl rfl), nils_ok rfl, ⟨by decide, NumC.rd (by decide) rd_int32, fun flex => fa113_0, ⟨by decide, NumC.rd (by decide) rd_int16, fun flex => fa113_1, ⟨by decide, ⟨rfl, rd_cnstring, rd_nstring⟩, fun flex => fa113_2, ⟨by decide, rfl, rd_tags, fa113_3, done_ok (by decide)⟩⟩⟩⟩, ⟨by decide, rfl, rd_tags, fa110_3, done_ok (by decide)⟩⟩⟩⟩, ⟨by decide, rfl, rd_tags, fa105_5, done_ok (by decide)⟩⟩⟩⟩⟩
theorem okW : a.ok Tryd.prog 5 true true 105 := ⟨app_i32C, fun flex => ⟨fa105_1, (.inl ⟨one21, rfl, fun _ _ => rfl⟩)⟩, ⟨app_i16C, fun flex => ⟨fa105_2, (.inl ⟨one41, rfl, fun _ _ => rfl⟩)⟩, ⟨⟨rfl, app_cnstrC, app_nstrC⟩, fun flex => by cases flex <;> exact ⟨fa105_3, (.inl ⟨one99, rfl, fun _ _ => rfl⟩)⟩, ⟨rfl, ⟨rfl, len_compact, len_plain⟩, fa105_4, sl103, ⟨⟨rfl, app_cstrC, app_strC⟩, fun flex => by cases flex <;> exact ⟨fa110_0, (.inl ⟨one9, rfl, fun _ _ => rfl⟩)⟩, ⟨⟨app_uuidC, bx16⟩, fun flex => ⟨fa110_1, (.inr ⟨⟨⟨_, Tryd.underlying63, rfl⟩, info_of sz63⟩, fun _ => rfl⟩)⟩, ⟨rfl, ⟨rfl, len_compact, len_plain⟩, fa110_2, sl108, ⟨app_i32C, fun flex => ⟨fa113_0, (.inl ⟨one21, rfl, fun _ _ => rfl⟩)⟩, ⟨app_i16C, fun flex => ⟨fa113_1, (.inl ⟨one41, rfl, fun _ _ => rfl⟩)⟩, ⟨⟨rfl, app_cnstrC, app_nstrC⟩, fun flex => by cases flex <;> exact ⟨fa113_2, (.inl ⟨one99, rfl, fun _ _ => rfl⟩)⟩, ⟨rfl, fa113_3, tags_len, app_uvarint, tags_each, trivial⟩⟩⟩⟩, ⟨rfl, fa110_3, tags_len, app_uvarint, tags_each, trivial⟩⟩⟩⟩, ⟨rfl, fa105_5, tags_len, app_uvarint, tags_each, trivial⟩⟩⟩⟩⟩
theorem msgR : MsgR Tryd.prog gn 105 57 69 41 M0 Tryd.f70.ntmps 6 6 none (some 0) r EI :=
  ⟨rd_ok, rd_completeE, und_i32, rdrT, one_i16, fa105_0, (def_skip Tryd.func69 rfl rfl rfl), fun F h => (by cases h), okR, by decide, by decide, by decide, rfl, by decide⟩
theorem msgW : MsgW Tryd.prog hn true 105 41 M1 Tryd.f41.ntmps (some 0) a := ⟨und_int, und_u32, one_i16, fa105_0, okW, rfl, by decide, by decide⟩
theorem plain_of {F : Nat} {fn : Func} (hf : Tryd.prog.funcs[F]? = some fn) (hb : fn.body.isNone = false) (hn : (fn.name == "runtime.NumGoroutine") = false) : Plain Tryd.prog F := ⟨fn, hf, hb, hn⟩
theorem agc : AgC Tryd.prog 5 22 50 40 41 0 EI none (some 0) r (MwM r (some 0)) vlM 6 :=
  mwa ▸ AgC.mk' (sl := 22) (bo := 4) msgR msgW Tryd.func70 bR codeR Tryd.results70 rfl (plain_of Tryd.func70 rfl rfl) Tryd.func40 bD codeD Tryd.results40 Tryd.ntmps40 (plain_of Tryd.func40 rfl rfl)
    Tryd.func41 bW codeW Tryd.results41 rfl (plain_of Tryd.func41 rfl rfl) Tryd.underlying22 info_u8 Tryd.underlying50 (errI_keep (L := 0 + 1) (Nat.lt_succ_self _)) (fun w h => h.2) vlM
    (fun w D b lo hi ver x bs bs0 ver0 hv hc hH => by have e : a.m ver (flexOf (some 0) ver) = MwM r (some 0) ver := congrFun mwa ver; rw [e]; exact hH)
noncomputable def bP : Code := (Tryd.f37.body).getD .skip
noncomputable def bS : Code := (Tryd.f39.body).getD .skip
noncomputable def bV : Code := (Tryd.f38.body).getD .skip
noncomputable def bX : Code := (Tryd.f18.body).getD .skip
theorem codeP : Tryd.f37.body = some (gNP 69 105 57 bP) := by kernel_rfl
theorem codeS : Tryd.f39.body = some (gSV 105 41 bS) := by kernel_rfl
theorem codeV : Tryd.f38.body = some (gK (.int .i16 0) (.int .i16 0) bV) := by kernel_rfl
theorem codeX : Tryd.f18.body = some (gMx 37 38 57 41 3 bX) := by kernel_rfl
theorem alc : Alc Tryd.prog 105 #[.int .i16 0, .int .i32 0, .int .i16 0, .pointer none, .slice none 0 0, .map none] := fun o a w h => by
  obtain ⟨d, op, t, p, af, g⟩ := o
  simp only at h
  subst h
  kernel_rfl
theorem new_calls (w : World) : Calls Tryd.prog 37 #[] w fun e w' => e = .returned (.pointer (some ⟨w.heap.size, 0, none⟩)) ∧ Only (fun _ => False) w w' ∧ Blk w' w.heap.size 6 ∧ ∀ q ∈ r.nils, w'.cell? ⟨w.heap.size, q, none⟩ = some (.slice none 0 0) :=
  (NP_calls (ks := 0 :: r.nils) Tryd.func37 bP codeP Tryd.results37 Tryd.ntmps37 alc rfl (def_skip Tryd.func69 rfl rfl rfl)).mono fun e w' h => ⟨h.1, h.2.1, h.2.2.1, fun q hq => (h.2.2.2 q (List.mem_cons_of_mem _ hq)).trans (nilsZ rfl q hq)⟩
theorem set_calls (w : World) (b : Nat) (n : Int) (hb : Blk w b 6) : Calls Tryd.prog 39 #[.pointer (some ⟨b, 0, none⟩), .int .i16 n] w fun e w' => e = .returned (.tuple #[]) ∧ Only (· = b) w w' ∧ Upd b 0 1 w w' ∧ w'.cell? ⟨b, 0, none⟩ = some (.int .i16 n) :=
  SV_calls Tryd.func39 bS codeS Tryd.results39 Tryd.ntmps39 fa105_0 hb (by decide)
theorem max_calls (w : World) : Calls Tryd.prog 18 #[] w fun e w' => e = .returned (.int .i64 0) ∧ Only (fun _ => False) w w' :=
  Mx_calls Tryd.func18 bX codeX Tryd.results18 Tryd.ntmps18 und_int Tryd.underlying41 (plain_of Tryd.func37 rfl rfl) (plain_of Tryd.func38 rfl rfl) ((new_calls w).mono fun e w' h => ⟨_, h.1, h.2.1⟩) fun v w' => K_calls Tryd.func38 bV codeV Tryd.results38 Tryd.ntmps38
noncomputable def bA : Code := (Tryd.f19.body).getD .skip
theorem codeA : Tryd.f19.body = some (gAgM 37 39 40 41 57 22 50 50 3 41 bA) := by kernel_rfl
/-- What impl.AgainAlterShareGroupOffsetsResponse comes to. -/
theorem again {w : World} {ver : Int} {vs : Value} {B : Nat} {bs : List UInt8} (hB : B ≤ w.heap.size) (hv : Oc w B vs bs) (hl : bs.length ≤ lim) (hI : EI w) (hr : IntKind.i16.wrap ver = ver) (hf : Fits none (some 0) ver r (MwM r (some 0)) vlM bs) :
    Calls Tryd.prog 19 #[.int .i64 ver, vs] w (AgQ 5 none (some 0) ver r (MwM r (some 0)) vlM w bs) :=
  AgM_calls agc Tryd.func19 bA codeA Tryd.results19 Tryd.ntmps19 (plain_of Tryd.func37 rfl rfl) (plain_of Tryd.func39 rfl rfl) und_int Tryd.underlying41 (by decide) (by decide) new_calls set_calls hB hv hl hI hr hf
theorem ei_up {w w' : World} (h : EI w) (O : Only (fun _ => False) w w') : EI w' := agc.keep w w' h (O.mono fun _ _ h => h.elim)
theorem full {w : World} {vs : Value} {B : Nat} {ver : Int} {bs : List UInt8} (hB : B ≤ w.heap.size) (hv : Oc w B vs bs) (hr : IntKind.i16.wrap ver = ver) (h : Full (r.m ver (flexOf (some 0) ver)).w bs) (hl : bs.length ≤ lim) (hI : EI w) : Calls Tryd.prog 19 #[.int .i64 ver, vs] w (FullP 5 bs w) :=
  have k := fullM h (by unfold lim at hl; unfold lim2; omega)
  (again hB hv hl hI hr k.1).mono fun e w' h => fullP_of (k.2 h)
theorem cut {w : World} {vs : Value} {B : Nat} {ver : Int} {q s : List UInt8} (hB : B ≤ w.heap.size) (hv : Oc w B vs q) (hr : IntKind.i16.wrap ver = ver) (h : Full (r.m ver (flexOf (some 0) ver)).w (q ++ s)) (hs : s ≠ []) (hl : q.length ≤ lim) (hI : EI w) : Calls Tryd.prog 19 #[.int .i64 ver, vs] w (CutP w) :=
  have k := cutM h hs hl
  (again hB hv hl hI hr k.1).mono fun e w' h => k.2 h
theorem any2 {ver : Int} {bs : List UInt8} (hr : IntKind.i16.wrap ver = ver) (hok : (r.m ver (flexOf (some 0) ver)).w.ok = true) (hl : bs.length ≤ 32767) :
    (∃ out, out.length ≤ bs.length ∧ Full (r.m ver (flexOf (some 0) ver)).w out ∧ ∀ {w : World} {vs : Value} {B : Nat}, B ≤ w.heap.size → Oc w B vs bs → EI w → Calls Tryd.prog 19 #[.int .i64 ver, vs] w (FullP 5 out w)) ∨
      ∀ {w : World} {vs : Value} {B : Nat}, B ≤ w.heap.size → Oc w B vs bs → EI w → Calls Tryd.prog 19 #[.int .i64 ver, vs] w (CutP w) := by
  have hf := (anyM hok hl).1
  have hll : bs.length ≤ lim := by unfold lim; omega
  rcases anyM2 hok hl with ⟨out, h1, h4, h5⟩ | h
  · exact .inl ⟨out, h1, h4, fun hB hv hI => (again hB hv hll hI hr hf).mono fun e w' h => h5 h⟩
  · exact .inr fun hB hv hI => (again hB hv hll hI hr hf).mono fun e w' hh => h hh
end Go.Proofs.YtjphodjbflgbaaaDoor.Kf.MAlterShareGroupOffsetsResponse
