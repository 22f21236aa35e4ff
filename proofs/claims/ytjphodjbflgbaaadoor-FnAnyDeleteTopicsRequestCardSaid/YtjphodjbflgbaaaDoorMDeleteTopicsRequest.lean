/- DeleteTopicsRequest: its schema; what the thin package's functions over it come to. -/
import Derived.Test.YtjphodjbflgbaaaDoorMsgB
import Derived.Test.YtjphodjbflgbaaaDoorLawA
import Derived.Test.YtjphodjbflgbaaaDoorDfA
import Derived.Handy
import Derived.Test.YtjphodjbflgbaaaDoorTagC
import Derived.Test.YtjphodjbflgbaaaDoorTagG
import Derived.Test.YtjphodjbflgbaaaDoorKbT
import Derived.Test.YtjphodjbflgbaaaDoorKbV
namespace Go.Proofs.YtjphodjbflgbaaaDoor.Kf.MDeleteTopicsRequest
set_option linter.unusedVariables false
set_option linter.unusedSimpArgs false
set_option maxRecDepth 100000
open Go Go.RowKit

def r : R := .arrV (.rng 0 5) 1 1 94 16 [.string ⟨#[]⟩] (.two 88 89) none 9 (.str2 false 84 85 86 87) (.arrS (.ge 6) 2 2 95 32 [.pointer none, .int .u8 0, .int .u8 0, .int .u8 0, .int .u8 0, .int .u8 0, .int .u8 0, .int .u8 0, .int .u8 0, .int .u8 0, .int .u8 0, .int .u8 0, .int .u8 0, .int .u8 0, .int .u8 0, .int .u8 0, .int .u8 0, .map none] (.two 88 89) none 97 98 101 (.val .all 0 0 99 (.str3 true 98 99 100 101) (.val .all 1 1 63 (.uid 78 63) (.tags 2 17 66 79 .done))) (.val .all 3 3 21 (.prim .i32 93) (.tags 4 4 66 79 .done)))
def a : A := .arrV (.rng 0 5) 1 1 94 16 [.string ⟨#[]⟩] none (.two false 61 62) 9 (.two (.str true false) (.str false false) 59 60) (.arrS (.ge 6) 2 2 95 32 [.pointer none, .int .u8 0, .int .u8 0, .int .u8 0, .int .u8 0, .int .u8 0, .int .u8 0, .int .u8 0, .int .u8 0, .int .u8 0, .int .u8 0, .int .u8 0, .int .u8 0, .int .u8 0, .int .u8 0, .int .u8 0, .int .u8 0, .map none] none (.two false 61 62) 101 (.val .all 0 0 99 (.two (.str true true) (.str false true) 67 68) (.val .all 1 1 63 (.uid 53 63) (.tags 2 17 66 55 54 56 .done))) (.val .all 3 3 21 (.one (.prim .i32) 63) (.tags 4 4 66 55 54 56 .done)))
noncomputable def bR : Code := (Tryd.f66.body).getD .skip
noncomputable def bW : Code := (Tryd.f36.body).getD .skip
noncomputable def bD : Code := (Tryd.f35.body).getD .skip
def M0 : Nat := (if ((some 4) : Option Int).isSome then 11 else 10) + r.k
def M1 : Nat := Nat.max ((if ((some 4) : Option Int).isSome then 7 else 6) + a.k) 7
theorem mwa : (fun ver => a.m ver (flexOf (some 4) ver)) = MwM r (some 4) := by
  funext ver
  unfold MwM
  generalize flexOf (some 4) ver = flex
  cases flex <;> rfl
theorem codeR : Tryd.f66.body = some (gRead gn 97 55 65 41 M0 none (some 4) r bR) := by kernel_rfl
theorem codeW : Tryd.f36.body = some (gWrite hn 97 41 M1 (some 4) a bW) := by kernel_rfl
theorem codeD : Tryd.f35.body = some (gRF 66 55 22 4 bD) := by kernel_rfl
theorem sz94 : (Tryd.prog.info? 94).map (·.size) = some 1 := by kernel_rfl
theorem fa97_1 : FieldAt Tryd.prog 97 1 1 94 1 := fieldAt_of Tryd.underlying97 rfl rfl rfl sz94 (by decide)
theorem sl94 : Sl Tryd.prog 94 1 16 [.string ⟨#[]⟩] := sl_of Tryd.underlying94 (by kernel_rfl) sz94 (by decide) rfl
theorem sz9 : (Tryd.prog.info? 9).map (·.size) = some 1 := by kernel_rfl
theorem sz95 : (Tryd.prog.info? 95).map (·.size) = some 1 := by kernel_rfl
theorem fa97_2 : FieldAt Tryd.prog 97 2 2 95 1 := fieldAt_of Tryd.underlying97 rfl rfl rfl sz95 (by decide)
theorem sl95 : Sl Tryd.prog 95 18 32 [.pointer none, .int .u8 0, .int .u8 0, .int .u8 0, .int .u8 0, .int .u8 0, .int .u8 0, .int .u8 0, .int .u8 0, .int .u8 0, .int .u8 0, .int .u8 0, .int .u8 0, .int .u8 0, .int .u8 0, .int .u8 0, .int .u8 0, .map none] := sl_of Tryd.underlying95 (by kernel_rfl) sz95 (by decide) rfl
theorem sz99 : (Tryd.prog.info? 99).map (·.size) = some 1 := by kernel_rfl
theorem fa101_0 : FieldAt Tryd.prog 101 0 0 99 1 := fieldAt_of Tryd.underlying101 rfl rfl rfl sz99 (by decide)
theorem sz63 : (Tryd.prog.info? 63).map (·.size) = some 16 := by kernel_rfl
theorem fa101_1 : FieldAt Tryd.prog 101 1 1 63 16 := fieldAt_of Tryd.underlying101 rfl rfl rfl sz63 (by decide)
theorem bx16 : BxT Tryd.prog 63 16 where
  alc := ⟨#[.int .u8 0, .int .u8 0, .int .u8 0, .int .u8 0, .int .u8 0, .int .u8 0, .int .u8 0, .int .u8 0, .int .u8 0, .int .u8 0, .int .u8 0, .int .u8 0, .int .u8 0, .int .u8 0, .int .u8 0, .int .u8 0], rfl, fun o a w h => by
    obtain ⟨d, op, t, p, af, g⟩ := o
    simp only at h
    subst h
    kernel_rfl⟩
  sz := info_of sz63
  desc := ⟨_, Tryd.underlying63, rfl⟩
theorem sz66 : (Tryd.prog.info? 66).map (·.size) = some 1 := by kernel_rfl
theorem fa101_2 : FieldAt Tryd.prog 101 2 17 66 1 := fieldAt_of Tryd.underlying101 rfl rfl rfl sz66 (by decide)
theorem sz21 : (Tryd.prog.info? 21).map (·.size) = some 1 := by kernel_rfl
theorem fa97_3 : FieldAt Tryd.prog 97 3 3 21 1 := fieldAt_of Tryd.underlying97 rfl rfl rfl sz21 (by decide)
theorem fa97_4 : FieldAt Tryd.prog 97 4 4 66 1 := fieldAt_of Tryd.underlying97 rfl rfl rfl sz66 (by decide)
theorem one9 : One Tryd.prog 9 := one_of Tryd.underlying9 rfl sz9
theorem one99 : One Tryd.prog 99 := one_of Tryd.underlying99 rfl sz99
theorem one21 : One Tryd.prog 21 := one_of Tryd.underlying21 rfl sz21
theorem sz41 : (Tryd.prog.info? 41).map (·.size) = some 1 := by kernel_rfl
theorem fa97_0 : FieldAt Tryd.prog 97 0 0 41 1 := fieldAt_of Tryd.underlying97 rfl rfl rfl sz41 (by decide)
def dl_DeleteTopicsRequest : List DS := [⟨3, 3, 21, .int .i32 (15000)⟩]
noncomputable def bDf_DeleteTopicsRequest : Code := (Tryd.f65.body).getD .skip
theorem def_DeleteTopicsRequest : DefC Tryd.prog 65 5 [0, 1, 2] :=
  def_set (T := 97) (l := dl_DeleteTopicsRequest) Tryd.func65 bDf_DeleteTopicsRequest (by kernel_rfl) Tryd.results65 Tryd.ntmps65 (by decide) rfl (fun x hx => by
    simp only [dl_DeleteTopicsRequest, List.mem_cons, List.not_mem_nil, or_false] at hx
    subst hx; exact ⟨fa97_3, rfl, rfl, by decide, by decide⟩)
theorem okR : r.ok Tryd.prog true 97 1 5 := ⟨by decide, ⟨rfl, rd_cstring, rd_string⟩, ⟨rfl, rd_calen, rd_alen⟩, fa97_1, sl94, by decide, info_of sz9, fun flex => rfl, ⟨by decide, ⟨rfl, rd_calen, rd_alen⟩, fa97_2, sl95, by decide, (def_skip Tryd.func97 rfl rfl rfl), nils_ok rfl, ⟨by decide, ⟨rfl, rd_cnstring, rd_nstring⟩, fun flex => fa101_0, ⟨by decide, ⟨rd_uuid, bx16⟩, fun flex => fa101_1, ⟨by decide, rfl, rd_tags, fa101_2, done_ok (by decide)⟩⟩⟩, ⟨by decide, NumC.rd (by decide) rd_int32, fun flex => fa97_3, ⟨by decide, rfl, rd_tags, fa97_4, done_ok (by decide)⟩⟩⟩⟩
theorem okW : a.ok Tryd.prog 5 true true 97 := ⟨rfl, ⟨rfl, len_compact, len_plain⟩, fa97_1, sl94, ⟨rfl, app_cstrC, app_strC⟩, fun flex => ⟨by cases flex <;> rfl, by cases flex <;> exact (.inl ⟨one9, rfl, fun _ _ => rfl⟩)⟩, ⟨rfl, ⟨rfl, len_compact, len_plain⟩, fa97_2, sl95, ⟨⟨rfl, app_cnstrC, app_nstrC⟩, fun flex => by cases flex <;> exact ⟨fa101_0, (.inl ⟨one99, rfl, fun _ _ => rfl⟩)⟩, ⟨⟨app_uuidC, bx16⟩, fun flex => ⟨fa101_1, (.inr ⟨⟨⟨_, Tryd.underlying63, rfl⟩, info_of sz63⟩, fun _ => rfl⟩)⟩, ⟨rfl, fa101_2, tags_len, app_uvarint, tags_each, trivial⟩⟩⟩, ⟨app_i32C, fun flex => ⟨fa97_3, (.inl ⟨one21, rfl, fun _ _ => rfl⟩)⟩, ⟨rfl, fa97_4, tags_len, app_uvarint, tags_each, trivial⟩⟩⟩⟩
theorem msgR : MsgR Tryd.prog gn 97 55 65 41 M0 Tryd.f66.ntmps 5 5 none (some 4) r EI :=
  ⟨rd_ok, rd_completeE, und_i32, rdrT, one_i16, fa97_0, def_DeleteTopicsRequest, fun F h => (by cases h), okR, by decide, by decide, by decide, rfl, by decide⟩
theorem msgW : MsgW Tryd.prog hn true 97 41 M1 Tryd.f36.ntmps (some 4) a := ⟨und_int, und_u32, one_i16, fa97_0, okW, rfl, by decide, by decide⟩
theorem plain_of {F : Nat} {fn : Func} (hf : Tryd.prog.funcs[F]? = some fn) (hb : fn.body.isNone = false) (hn : (fn.name == "runtime.NumGoroutine") = false) : Plain Tryd.prog F := ⟨fn, hf, hb, hn⟩
theorem agc : AgC Tryd.prog 5 22 50 35 36 0 EI none (some 4) r (MwM r (some 4)) vlM 5 :=
  mwa ▸ AgC.mk' (sl := 22) (bo := 4) msgR msgW Tryd.func66 bR codeR Tryd.results66 rfl (plain_of Tryd.func66 rfl rfl) Tryd.func35 bD codeD Tryd.results35 Tryd.ntmps35 (plain_of Tryd.func35 rfl rfl)
    Tryd.func36 bW codeW Tryd.results36 rfl (plain_of Tryd.func36 rfl rfl) Tryd.underlying22 info_u8 Tryd.underlying50 (errI_keep (L := 0 + 1) (Nat.lt_succ_self _)) (fun w h => h.2) vlM
    (fun w D b lo hi ver x bs bs0 ver0 hv hc hH => by have e : a.m ver (flexOf (some 4) ver) = MwM r (some 4) ver := congrFun mwa ver; rw [e]; exact hH)
noncomputable def bP : Code := (Tryd.f32.body).getD .skip
noncomputable def bS : Code := (Tryd.f34.body).getD .skip
noncomputable def bV : Code := (Tryd.f33.body).getD .skip
noncomputable def bX : Code := (Tryd.f16.body).getD .skip
theorem codeP : Tryd.f32.body = some (gNP 65 97 55 bP) := by kernel_rfl
theorem codeS : Tryd.f34.body = some (gSV 97 41 bS) := by kernel_rfl
theorem codeV : Tryd.f33.body = some (gK (.int .i16 0) (.int .i16 6) bV) := by kernel_rfl
theorem codeX : Tryd.f16.body = some (gMx 32 33 55 41 3 bX) := by kernel_rfl
theorem alc : Alc Tryd.prog 97 #[.int .i16 0, .slice none 0 0, .slice none 0 0, .int .i32 0, .map none] := fun o a w h => by
  obtain ⟨d, op, t, p, af, g⟩ := o
  simp only at h
  subst h
  kernel_rfl
theorem new_calls (w : World) : Calls Tryd.prog 32 #[] w fun e w' => e = .returned (.pointer (some ⟨w.heap.size, 0, none⟩)) ∧ Only (fun _ => False) w w' ∧ Blk w' w.heap.size 5 ∧ ∀ q ∈ r.nils, w'.cell? ⟨w.heap.size, q, none⟩ = some (.slice none 0 0) :=
  (NP_calls (ks := 0 :: r.nils) Tryd.func32 bP codeP Tryd.results32 Tryd.ntmps32 alc rfl def_DeleteTopicsRequest).mono fun e w' h => ⟨h.1, h.2.1, h.2.2.1, fun q hq => (h.2.2.2 q (List.mem_cons_of_mem _ hq)).trans (nilsZ rfl q hq)⟩
theorem set_calls (w : World) (b : Nat) (n : Int) (hb : Blk w b 5) : Calls Tryd.prog 34 #[.pointer (some ⟨b, 0, none⟩), .int .i16 n] w fun e w' => e = .returned (.tuple #[]) ∧ Only (· = b) w w' ∧ Upd b 0 1 w w' ∧ w'.cell? ⟨b, 0, none⟩ = some (.int .i16 n) :=
  SV_calls Tryd.func34 bS codeS Tryd.results34 Tryd.ntmps34 fa97_0 hb (by decide)
theorem max_calls (w : World) : Calls Tryd.prog 16 #[] w fun e w' => e = .returned (.int .i64 6) ∧ Only (fun _ => False) w w' :=
  Mx_calls Tryd.func16 bX codeX Tryd.results16 Tryd.ntmps16 und_int Tryd.underlying41 (plain_of Tryd.func32 rfl rfl) (plain_of Tryd.func33 rfl rfl) ((new_calls w).mono fun e w' h => ⟨_, h.1, h.2.1⟩) fun v w' => K_calls Tryd.func33 bV codeV Tryd.results33 Tryd.ntmps33
noncomputable def bA : Code := (Tryd.f17.body).getD .skip
theorem codeA : Tryd.f17.body = some (gAgM 32 34 35 36 55 22 50 50 3 41 bA) := by kernel_rfl
/-- What impl.AgainDeleteTopicsRequest comes to. -/
theorem again {w : World} {ver : Int} {vs : Value} {B : Nat} {bs : List UInt8} (hB : B ≤ w.heap.size) (hv : Oc w B vs bs) (hl : bs.length ≤ lim) (hI : EI w) (hr : IntKind.i16.wrap ver = ver) (hf : Fits none (some 4) ver r (MwM r (some 4)) vlM bs) :
    Calls Tryd.prog 17 #[.int .i64 ver, vs] w (AgQ 5 none (some 4) ver r (MwM r (some 4)) vlM w bs) :=
  AgM_calls agc Tryd.func17 bA codeA Tryd.results17 Tryd.ntmps17 (plain_of Tryd.func32 rfl rfl) (plain_of Tryd.func34 rfl rfl) und_int Tryd.underlying41 (by decide) (by decide) new_calls set_calls hB hv hl hI hr hf
theorem ei_up {w w' : World} (h : EI w) (O : Only (fun _ => False) w w') : EI w' := agc.keep w w' h (O.mono fun _ _ h => h.elim)
theorem full {w : World} {vs : Value} {B : Nat} {ver : Int} {bs : List UInt8} (hB : B ≤ w.heap.size) (hv : Oc w B vs bs) (hr : IntKind.i16.wrap ver = ver) (h : Full (r.m ver (flexOf (some 4) ver)).w bs) (hl : bs.length ≤ lim) (hI : EI w) : Calls Tryd.prog 17 #[.int .i64 ver, vs] w (FullP 5 bs w) :=
  have k := fullM h (by unfold lim at hl; unfold lim2; omega)
  (again hB hv hl hI hr k.1).mono fun e w' h => fullP_of (k.2 h)
theorem cut {w : World} {vs : Value} {B : Nat} {ver : Int} {q s : List UInt8} (hB : B ≤ w.heap.size) (hv : Oc w B vs q) (hr : IntKind.i16.wrap ver = ver) (h : Full (r.m ver (flexOf (some 4) ver)).w (q ++ s)) (hs : s ≠ []) (hl : q.length ≤ lim) (hI : EI w) : Calls Tryd.prog 17 #[.int .i64 ver, vs] w (CutP w) :=
  have k := cutM h hs hl
  (again hB hv hl hI hr k.1).mono fun e w' h => k.2 h
theorem any2 {ver : Int} {bs : List UInt8} (hr : IntKind.i16.wrap ver = ver) (hok : (r.m ver (flexOf (some 4) ver)).w.ok = true) (hl : bs.length ≤ 32767) :
    (∃ out, out.length ≤ bs.length ∧ Full (r.m ver (flexOf (some 4) ver)).w out ∧ ∀ {w : World} {vs : Value} {B : Nat}, B ≤ w.heap.size → Oc w B vs bs → EI w → Calls Tryd.prog 17 #[.int .i64 ver, vs] w (FullP 5 out w)) ∨
      ∀ {w : World} {vs : Value} {B : Nat}, B ≤ w.heap.size → Oc w B vs bs → EI w → Calls Tryd.prog 17 #[.int .i64 ver, vs] w (CutP w) := by
  have hf := (anyM hok hl).1
  have hll : bs.length ≤ lim := by unfold lim; omega
  rcases anyM2 hok hl with ⟨out, h1, h4, h5⟩ | h
  · exact .inl ⟨out, h1, h4, fun hB hv hI => (again hB hv hll hI hr hf).mono fun e w' h => h5 h⟩
  · exact .inr fun hB hv hI => (again hB hv hll hI hr hf).mono fun e w' hh => h hh
end Go.Proofs.YtjphodjbflgbaaaDoor.Kf.MDeleteTopicsRequest
