/- InitializeShareGroupStateRequest: its schema; what the thin package's functions over it come to. -/
import Derived.Test.YtjphodjbflgbaaaDoorMsgB
import Derived.Test.YtjphodjbflgbaaaDoorLawA
import Derived.Test.YtjphodjbflgbaaaDoorDfA
import Derived.Handy
import Derived.Test.YtjphodjbflgbaaaDoorTagC
import Derived.Test.YtjphodjbflgbaaaDoorTagG
import Derived.Test.YtjphodjbflgbaaaDoorKbT
import Derived.Test.YtjphodjbflgbaaaDoorKbV
namespace Go.Proofs.YtjphodjbflgbaaaDoor.Kf.MInitializeShareGroupStateRequest
set_option linter.unusedVariables false
set_option linter.unusedSimpArgs false
set_option maxRecDepth 100000
open Go Go.RowKit

def r : R := .val .all 1 1 9 (.str2 false 84 85 86 87) (.arrS .all 2 2 80 48 [.int .u8 0, .int .u8 0, .int .u8 0, .int .u8 0, .int .u8 0, .int .u8 0, .int .u8 0, .int .u8 0, .int .u8 0, .int .u8 0, .int .u8 0, .int .u8 0, .int .u8 0, .int .u8 0, .int .u8 0, .int .u8 0, .slice none 0 0, .map none] (.two 88 89) none 91 85 88 (.val .all 0 0 63 (.uid 78 63) (.arrS .all 1 16 86 24 [.int .i32 0, .int .i32 0, .int .i64 0, .map none] (.two 88 89) none 92 89 91 (.val .all 0 0 21 (.prim .i32 93) (.val .all 1 1 21 (.prim .i32 93) (.val .all 2 2 2 (.prim .i64 94) (.tags 3 3 66 79 .done)))) (.tags 2 17 66 79 .done))) (.tags 3 3 66 79 .done))
def a : A := .val .all 1 1 9 (.two (.str true false) (.str false false) 59 60) (.arrS .all 2 2 80 48 [.int .u8 0, .int .u8 0, .int .u8 0, .int .u8 0, .int .u8 0, .int .u8 0, .int .u8 0, .int .u8 0, .int .u8 0, .int .u8 0, .int .u8 0, .int .u8 0, .int .u8 0, .int .u8 0, .int .u8 0, .int .u8 0, .slice none 0 0, .map none] none (.two false 61 62) 88 (.val .all 0 0 63 (.uid 53 63) (.arrS .all 1 16 86 24 [.int .i32 0, .int .i32 0, .int .i64 0, .map none] none (.two false 61 62) 91 (.val .all 0 0 21 (.one (.prim .i32) 63) (.val .all 1 1 21 (.one (.prim .i32) 63) (.val .all 2 2 2 (.one (.prim .i64) 64) (.tags 3 3 66 55 54 56 .done)))) (.tags 2 17 66 55 54 56 .done))) (.tags 3 3 66 55 54 56 .done))
noncomputable def bR : Code := (Tryd.f58.body).getD .skip
noncomputable def bW : Code := (Tryd.f31.body).getD .skip
noncomputable def bD : Code := (Tryd.f30.body).getD .skip
def M0 : Nat := (if ((some 0) : Option Int).isSome then 11 else 10) + r.k
def M1 : Nat := Nat.max ((if ((some 0) : Option Int).isSome then 7 else 6) + a.k) 7
theorem mwa : (fun ver => a.m ver (flexOf (some 0) ver)) = MwM r (some 0) := by
  funext ver
  unfold MwM
  generalize flexOf (some 0) ver = flex
  cases flex <;> rfl
theorem codeR : Tryd.f58.body = some (gRead gn 82 53 57 41 M0 none (some 0) r bR) := by kernel_rfl
theorem codeW : Tryd.f31.body = some (gWrite hn 82 41 M1 (some 0) a bW) := by kernel_rfl
theorem codeD : Tryd.f30.body = some (gRF 58 53 22 4 bD) := by kernel_rfl
theorem sz9 : (Tryd.prog.info? 9).map (·.size) = some 1 := by kernel_rfl
theorem fa82_1 : FieldAt Tryd.prog 82 1 1 9 1 := fieldAt_of Tryd.underlying82 rfl rfl rfl sz9 (by decide)
theorem sz80 : (Tryd.prog.info? 80).map (·.size) = some 1 := by kernel_rfl
theorem fa82_2 : FieldAt Tryd.prog 82 2 2 80 1 := fieldAt_of Tryd.underlying82 rfl rfl rfl sz80 (by decide)
theorem sl80 : Sl Tryd.prog 80 18 48 [.int .u8 0, .int .u8 0, .int .u8 0, .int .u8 0, .int .u8 0, .int .u8 0, .int .u8 0, .int .u8 0, .int .u8 0, .int .u8 0, .int .u8 0, .int .u8 0, .int .u8 0, .int .u8 0, .int .u8 0, .int .u8 0, .slice none 0 0, .map none] := sl_of Tryd.underlying80 (by kernel_rfl) sz80 (by decide) rfl
theorem sz63 : (Tryd.prog.info? 63).map (·.size) = some 16 := by kernel_rfl
theorem fa88_0 : FieldAt Tryd.prog 88 0 0 63 16 := fieldAt_of Tryd.underlying88 rfl rfl rfl sz63 (by decide)
theorem bx16 : BxT Tryd.prog 63 16 where
  alc := ⟨#[.int .u8 0, .int .u8 0, .int .u8 0, .int .u8 0, .int .u8 0, .int .u8 0, .int .u8 0, .int .u8 0, .int .u8 0, .int .u8 0, .int .u8 0, .int .u8 0, .int .u8 0, .int .u8 0, .int .u8 0, .int .u8 0], rfl, fun o a w h => by
    obtain ⟨d, op, t, p, af, g⟩ := o
    simp only at h
    subst h
    kernel_rfl⟩
  sz := info_of sz63
  desc := ⟨_, Tryd.underlying63, rfl⟩
theorem sz86 : (Tryd.prog.info? 86).map (·.size) = some 1 := by kernel_rfl
theorem fa88_1 : FieldAt Tryd.prog 88 1 16 86 1 := fieldAt_of Tryd.underlying88 rfl rfl rfl sz86 (by decide)
theorem sl86 : Sl Tryd.prog 86 4 24 [.int .i32 0, .int .i32 0, .int .i64 0, .map none] := sl_of Tryd.underlying86 (by kernel_rfl) sz86 (by decide) rfl
theorem sz21 : (Tryd.prog.info? 21).map (·.size) = some 1 := by kernel_rfl
theorem fa91_0 : FieldAt Tryd.prog 91 0 0 21 1 := fieldAt_of Tryd.underlying91 rfl rfl rfl sz21 (by decide)
theorem fa91_1 : FieldAt Tryd.prog 91 1 1 21 1 := fieldAt_of Tryd.underlying91 rfl rfl rfl sz21 (by decide)
theorem sz2 : (Tryd.prog.info? 2).map (·.size) = some 1 := by kernel_rfl
theorem fa91_2 : FieldAt Tryd.prog 91 2 2 2 1 := fieldAt_of Tryd.underlying91 rfl rfl rfl sz2 (by decide)
theorem sz66 : (Tryd.prog.info? 66).map (·.size) = some 1 := by kernel_rfl
theorem fa91_3 : FieldAt Tryd.prog 91 3 3 66 1 := fieldAt_of Tryd.underlying91 rfl rfl rfl sz66 (by decide)
theorem fa88_2 : FieldAt Tryd.prog 88 2 17 66 1 := fieldAt_of Tryd.underlying88 rfl rfl rfl sz66 (by decide)
theorem fa82_3 : FieldAt Tryd.prog 82 3 3 66 1 := fieldAt_of Tryd.underlying82 rfl rfl rfl sz66 (by decide)
theorem one9 : One Tryd.prog 9 := one_of Tryd.underlying9 rfl sz9
theorem one21 : One Tryd.prog 21 := one_of Tryd.underlying21 rfl sz21
theorem one2 : One Tryd.prog 2 := one_of Tryd.underlying2 rfl sz2
theorem sz41 : (Tryd.prog.info? 41).map (·.size) = some 1 := by kernel_rfl
theorem fa82_0 : FieldAt Tryd.prog 82 0 0 41 1 := fieldAt_of Tryd.underlying82 rfl rfl rfl sz41 (by decide)
theorem okR : r.ok Tryd.prog true 82 1 4 := ⟨by decide, ⟨rfl, rd_cstring, rd_string⟩, fun flex => fa82_1, ⟨by decide, ⟨rfl, rd_calen, rd_alen⟩, fa82_2, sl80, by decide, (def_skip Tryd.func91 rfl rfl rfl), nils_ok rfl, ⟨by decide, ⟨rd_uuid, bx16⟩, fun flex => fa88_0, ⟨by decide, ⟨rfl, rd_calen, rd_alen⟩, fa88_1, sl86, by decide, (def_skip Tryd.func92 rfl rfl rfl), nils_ok rfl, ⟨by decide, NumC.rd (by decide) rd_int32, fun flex => fa91_0, ⟨by decide, NumC.rd (by decide) rd_int32, fun flex => fa91_1, ⟨by decide, NumC.rd (by decide) rd_int64, fun flex => fa91_2, ⟨by decide, rfl, rd_tags, fa91_3, done_ok (by decide)⟩⟩⟩⟩, ⟨by decide, rfl, rd_tags, fa88_2, done_ok (by decide)⟩⟩⟩, ⟨by decide, rfl, rd_tags, fa82_3, done_ok (by decide)⟩⟩⟩
theorem okW : a.ok Tryd.prog 5 true true 82 := ⟨⟨rfl, app_cstrC, app_strC⟩, fun flex => by cases flex <;> exact ⟨fa82_1, (.inl ⟨one9, rfl, fun _ _ => rfl⟩)⟩, ⟨rfl, ⟨rfl, len_compact, len_plain⟩, fa82_2, sl80, ⟨⟨app_uuidC, bx16⟩, fun flex => ⟨fa88_0, (.inr ⟨⟨⟨_, Tryd.underlying63, rfl⟩, info_of sz63⟩, fun _ => rfl⟩)⟩, ⟨rfl, ⟨rfl, len_compact, len_plain⟩, fa88_1, sl86, ⟨app_i32C, fun flex => ⟨fa91_0, (.inl ⟨one21, rfl, fun _ _ => rfl⟩)⟩, ⟨app_i32C, fun flex => ⟨fa91_1, (.inl ⟨one21, rfl, fun _ _ => rfl⟩)⟩, ⟨app_i64C, fun flex => ⟨fa91_2, (.inl ⟨one2, rfl, fun _ _ => rfl⟩)⟩, ⟨rfl, fa91_3, tags_len, app_uvarint, tags_each, trivial⟩⟩⟩⟩, ⟨rfl, fa88_2, tags_len, app_uvarint, tags_each, trivial⟩⟩⟩, ⟨rfl, fa82_3, tags_len, app_uvarint, tags_each, trivial⟩⟩⟩
theorem msgR : MsgR Tryd.prog gn 82 53 57 41 M0 Tryd.f58.ntmps 4 4 none (some 0) r EI :=
  ⟨rd_ok, rd_completeE, und_i32, rdrT, one_i16, fa82_0, (def_skip Tryd.func57 rfl rfl rfl), fun F h => (by cases h), okR, by decide, by decide, by decide, rfl, by decide⟩
theorem msgW : MsgW Tryd.prog hn true 82 41 M1 Tryd.f31.ntmps (some 0) a := ⟨und_int, und_u32, one_i16, fa82_0, okW, rfl, by decide, by decide⟩
theorem plain_of {F : Nat} {fn : Func} (hf : Tryd.prog.funcs[F]? = some fn) (hb : fn.body.isNone = false) (hn : (fn.name == "runtime.NumGoroutine") = false) : Plain Tryd.prog F := ⟨fn, hf, hb, hn⟩
theorem agc : AgC Tryd.prog 5 22 50 30 31 0 EI none (some 0) r (MwM r (some 0)) vlM 4 :=
  mwa ▸ AgC.mk' (sl := 22) (bo := 4) msgR msgW Tryd.func58 bR codeR Tryd.results58 rfl (plain_of Tryd.func58 rfl rfl) Tryd.func30 bD codeD Tryd.results30 Tryd.ntmps30 (plain_of Tryd.func30 rfl rfl)
    Tryd.func31 bW codeW Tryd.results31 rfl (plain_of Tryd.func31 rfl rfl) Tryd.underlying22 info_u8 Tryd.underlying50 (errI_keep (L := 0 + 1) (Nat.lt_succ_self _)) (fun w h => h.2) vlM
    (fun w D b lo hi ver x bs bs0 ver0 hv hc hH => by have e : a.m ver (flexOf (some 0) ver) = MwM r (some 0) ver := congrFun mwa ver; rw [e]; exact hH)
noncomputable def bP : Code := (Tryd.f27.body).getD .skip
noncomputable def bS : Code := (Tryd.f29.body).getD .skip
noncomputable def bV : Code := (Tryd.f28.body).getD .skip
noncomputable def bX : Code := (Tryd.f14.body).getD .skip
theorem codeP : Tryd.f27.body = some (gNP 57 82 53 bP) := by kernel_rfl
theorem codeS : Tryd.f29.body = some (gSV 82 41 bS) := by kernel_rfl
theorem codeV : Tryd.f28.body = some (gK (.int .i16 0) (.int .i16 0) bV) := by kernel_rfl
theorem codeX : Tryd.f14.body = some (gMx 27 28 53 41 3 bX) := by kernel_rfl
theorem alc : Alc Tryd.prog 82 #[.int .i16 0, .string ⟨#[]⟩, .slice none 0 0, .map none] := fun o a w h => by
  obtain ⟨d, op, t, p, af, g⟩ := o
  simp only at h
  subst h
  kernel_rfl
theorem new_calls (w : World) : Calls Tryd.prog 27 #[] w fun e w' => e = .returned (.pointer (some ⟨w.heap.size, 0, none⟩)) ∧ Only (fun _ => False) w w' ∧ Blk w' w.heap.size 4 ∧ ∀ q ∈ r.nils, w'.cell? ⟨w.heap.size, q, none⟩ = some (.slice none 0 0) :=
  (NP_calls (ks := 0 :: r.nils) Tryd.func27 bP codeP Tryd.results27 Tryd.ntmps27 alc rfl (def_skip Tryd.func57 rfl rfl rfl)).mono fun e w' h => ⟨h.1, h.2.1, h.2.2.1, fun q hq => (h.2.2.2 q (List.mem_cons_of_mem _ hq)).trans (nilsZ rfl q hq)⟩
theorem set_calls (w : World) (b : Nat) (n : Int) (hb : Blk w b 4) : Calls Tryd.prog 29 #[.pointer (some ⟨b, 0, none⟩), .int .i16 n] w fun e w' => e = .returned (.tuple #[]) ∧ Only (· = b) w w' ∧ Upd b 0 1 w w' ∧ w'.cell? ⟨b, 0, none⟩ = some (.int .i16 n) :=
  SV_calls Tryd.func29 bS codeS Tryd.results29 Tryd.ntmps29 fa82_0 hb (by decide)
theorem max_calls (w : World) : Calls Tryd.prog 14 #[] w fun e w' => e = .returned (.int .i64 0) ∧ Only (fun _ => False) w w' :=
  Mx_calls Tryd.func14 bX codeX Tryd.results14 Tryd.ntmps14 und_int Tryd.underlying41 (plain_of Tryd.func27 rfl rfl) (plain_of Tryd.func28 rfl rfl) ((new_calls w).mono fun e w' h => ⟨_, h.1, h.2.1⟩) fun v w' => K_calls Tryd.func28 bV codeV Tryd.results28 Tryd.ntmps28
noncomputable def bA : Code := (Tryd.f15.body).getD .skip
theorem codeA : Tryd.f15.body = some (gAgM 27 29 30 31 53 22 50 50 3 41 bA) := by kernel_rfl
/-- What impl.AgainInitializeShareGroupStateRequest comes to. -/
theorem again {w : World} {ver : Int} {vs : Value} {B : Nat} {bs : List UInt8} (hB : B ≤ w.heap.size) (hv : Oc w B vs bs) (hl : bs.length ≤ lim) (hI : EI w) (hr : IntKind.i16.wrap ver = ver) (hf : Fits none (some 0) ver r (MwM r (some 0)) vlM bs) :
    Calls Tryd.prog 15 #[.int .i64 ver, vs] w (AgQ 5 none (some 0) ver r (MwM r (some 0)) vlM w bs) :=
  AgM_calls agc Tryd.func15 bA codeA Tryd.results15 Tryd.ntmps15 (plain_of Tryd.func27 rfl rfl) (plain_of Tryd.func29 rfl rfl) und_int Tryd.underlying41 (by decide) (by decide) new_calls set_calls hB hv hl hI hr hf
theorem ei_up {w w' : World} (h : EI w) (O : Only (fun _ => False) w w') : EI w' := agc.keep w w' h (O.mono fun _ _ h => h.elim)
theorem full {w : World} {vs : Value} {B : Nat} {ver : Int} {bs : List UInt8} (hB : B ≤ w.heap.size) (hv : Oc w B vs bs) (hr : IntKind.i16.wrap ver = ver) (h : Full (r.m ver (flexOf (some 0) ver)).w bs) (hl : bs.length ≤ lim) (hI : EI w) : Calls Tryd.prog 15 #[.int .i64 ver, vs] w (FullP 5 bs w) :=
  have k := fullM h (by unfold lim at hl; unfold lim2; omega)
  (again hB hv hl hI hr k.1).mono fun e w' h => fullP_of (k.2 h)
theorem cut {w : World} {vs : Value} {B : Nat} {ver : Int} {q s : List UInt8} (hB : B ≤ w.heap.size) (hv : Oc w B vs q) (hr : IntKind.i16.wrap ver = ver) (h : Full (r.m ver (flexOf (some 0) ver)).w (q ++ s)) (hs : s ≠ []) (hl : q.length ≤ lim) (hI : EI w) : Calls Tryd.prog 15 #[.int .i64 ver, vs] w (CutP w) :=
  have k := cutM h hs hl
  (again hB hv hl hI hr k.1).mono fun e w' h => k.2 h
theorem any2 {ver : Int} {bs : List UInt8} (hr : IntKind.i16.wrap ver = ver) (hok : (r.m ver (flexOf (some 0) ver)).w.ok = true) (hl : bs.length ≤ 32767) :
    (∃ out, out.length ≤ bs.length ∧ Full (r.m ver (flexOf (some 0) ver)).w out ∧ ∀ {w : World} {vs : Value} {B : Nat}, B ≤ w.heap.size → Oc w B vs bs → EI w → Calls Tryd.prog 15 #[.int .i64 ver, vs] w (FullP 5 out w)) ∨
      ∀ {w : World} {vs : Value} {B : Nat}, B ≤ w.heap.size → Oc w B vs bs → EI w → Calls Tryd.prog 15 #[.int .i64 ver, vs] w (CutP w) := by
  have hf := (anyM hok hl).1
  have hll : bs.length ≤ lim := by unfold lim; omega
  rcases anyM2 hok hl with ⟨out, h1, h4, h5⟩ | h
  · exact .inl ⟨out, h1, h4, fun hB hv hI => (again hB hv hll hI hr hf).mono fun e w' h => h5 h⟩
  · exact .inr fun hB hv hI => (again hB hv hll hI hr hf).mono fun e w' hh => h hh
end Go.Proofs.YtjphodjbflgbaaaDoor.Kf.MInitializeShareGroupStateRequest
