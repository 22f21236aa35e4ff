/- MetadataRequest: its schema; what the thin package's functions over it come to. -/
import Derived.Test.YtcanhgcceagplaaGreatDoorMsgB
import Derived.Test.YtcanhgcceagplaaGreatDoorLawA
import Derived.Test.YtcanhgcceagplaaGreatDoorDfA
import Derived.Handy
import Derived.Test.YtcanhgcceagplaaGreatDoorTagC
import Derived.Test.YtcanhgcceagplaaGreatDoorTagG
import Derived.Test.YtcanhgcceagplaaGreatDoorKbT
import Derived.Test.YtcanhgcceagplaaGreatDoorKbV
namespace Go.Proofs.YtcanhgcceagplaaGreatDoor.Kf.MMetadataRequest
set_option linter.unusedVariables false
set_option linter.unusedSimpArgs false
set_option maxRecDepth 100000
open Go Go.RowKit

def r : R := .arrS .all 1 1 101 32 [.int .u8 0, .int .u8 0, .int .u8 0, .int .u8 0, .int .u8 0, .int .u8 0, .int .u8 0, .int .u8 0, .int .u8 0, .int .u8 0, .int .u8 0, .int .u8 0, .int .u8 0, .int .u8 0, .int .u8 0, .int .u8 0, .pointer none, .map none] (.two 99 100) (some 1) 118 104 107 (.val (.ge 10) 0 0 105 (.uid 119 105) (.vv .all 1 16 65 9 (10) 105 107 106 108 95 96 97 98 (.tags 2 17 69 109 .done))) (.val (.ge 4) 2 2 4 (.prim .bool 120) (.val (.rng 8 10) 3 3 4 (.prim .bool 120) (.val (.ge 8) 4 4 4 (.prim .bool 120) (.tags 5 5 69 109 .done))))
def a : A := .arrS .all 1 1 101 32 [.int .u8 0, .int .u8 0, .int .u8 0, .int .u8 0, .int .u8 0, .int .u8 0, .int .u8 0, .int .u8 0, .int .u8 0, .int .u8 0, .int .u8 0, .int .u8 0, .int .u8 0, .int .u8 0, .int .u8 0, .int .u8 0, .pointer none, .map none] (some 1) (.ver (1) 66 67 68 69) 107 (.val (.ge 10) 0 0 105 (.uid 78 105) (.vv .all 1 16 65 9 (10) 70 71 64 65 (.tags 2 17 69 73 72 74 .done))) (.val (.ge 4) 2 2 4 (.one (.prim .bool) 79) (.val (.rng 8 10) 3 3 4 (.one (.prim .bool) 79) (.val (.ge 8) 4 4 4 (.one (.prim .bool) 79) (.tags 5 5 69 73 72 74 .done))))
noncomputable def bR : Code := (Tryz.f77.body).getD .skip
noncomputable def bW : Code := (Tryz.f36.body).getD .skip
noncomputable def bD : Code := (Tryz.f35.body).getD .skip
def M0 : Nat := (if ((some 9) : Option Int).isSome then 11 else 10) + r.k
def M1 : Nat := Nat.max ((if ((some 9) : Option Int).isSome then 7 else 6) + a.k) 7
theorem mwa : (fun ver => a.m ver (flexOf (some 9) ver)) = MwM r (some 9) := by
  funext ver
  unfold MwM
  generalize flexOf (some 9) ver = flex
  cases flex <;> rfl
theorem codeR : Tryz.f77.body = some (gRead gn 103 55 76 42 M0 none (some 9) r bR) := by kernel_rfl
theorem codeW : Tryz.f36.body = some (gWrite hn 103 42 M1 (some 9) a bW) := by kernel_rfl
theorem codeD : Tryz.f35.body = some (gRF 77 55 22 4 bD) := by kernel_rfl
theorem sz101 : (Tryz.prog.info? 101).map (·.size) = some 1 := by kernel_rfl
theorem fa103_1 : FieldAt Tryz.prog 103 1 1 101 1 := fieldAt_of Tryz.underlying103 rfl rfl rfl sz101 (by decide)
theorem sl101 : Sl Tryz.prog 101 18 32 [.int .u8 0, .int .u8 0, .int .u8 0, .int .u8 0, .int .u8 0, .int .u8 0, .int .u8 0, .int .u8 0, .int .u8 0, .int .u8 0, .int .u8 0, .int .u8 0, .int .u8 0, .int .u8 0, .int .u8 0, .int .u8 0, .pointer none, .map none] := sl_of Tryz.underlying101 (by kernel_rfl) sz101 (by decide) rfl
theorem sz105 : (Tryz.prog.info? 105).map (·.size) = some 16 := by kernel_rfl
theorem fa107_0 : FieldAt Tryz.prog 107 0 0 105 16 := fieldAt_of Tryz.underlying107 rfl rfl rfl sz105 (by decide)
theorem bx16 : BxT Tryz.prog 105 16 where
  alc := ⟨#[.int .u8 0, .int .u8 0, .int .u8 0, .int .u8 0, .int .u8 0, .int .u8 0, .int .u8 0, .int .u8 0, .int .u8 0, .int .u8 0, .int .u8 0, .int .u8 0, .int .u8 0, .int .u8 0, .int .u8 0, .int .u8 0], rfl, fun o a w h => by
    obtain ⟨d, op, t, p, af, g⟩ := o
    simp only at h
    subst h
    kernel_rfl⟩
  sz := info_of sz105
  desc := ⟨_, Tryz.underlying105, rfl⟩
theorem sz65 : (Tryz.prog.info? 65).map (·.size) = some 1 := by kernel_rfl
theorem fa107_1 : FieldAt Tryz.prog 107 1 16 65 1 := fieldAt_of Tryz.underlying107 rfl rfl rfl sz65 (by decide)
theorem alc9 : Alc Tryz.prog 9 #[.string ⟨#[]⟩] := fun o a w h => by
  obtain ⟨d, op, t, p, af, g⟩ := o
  simp only at h
  subst h
  kernel_rfl
theorem sz9 : (Tryz.prog.info? 9).map (·.size) = some 1 := by kernel_rfl
theorem sz69 : (Tryz.prog.info? 69).map (·.size) = some 1 := by kernel_rfl
theorem fa107_2 : FieldAt Tryz.prog 107 2 17 69 1 := fieldAt_of Tryz.underlying107 rfl rfl rfl sz69 (by decide)
theorem sz4 : (Tryz.prog.info? 4).map (·.size) = some 1 := by kernel_rfl
theorem fa103_2 : FieldAt Tryz.prog 103 2 2 4 1 := fieldAt_of Tryz.underlying103 rfl rfl rfl sz4 (by decide)
theorem fa103_3 : FieldAt Tryz.prog 103 3 3 4 1 := fieldAt_of Tryz.underlying103 rfl rfl rfl sz4 (by decide)
theorem fa103_4 : FieldAt Tryz.prog 103 4 4 4 1 := fieldAt_of Tryz.underlying103 rfl rfl rfl sz4 (by decide)
theorem fa103_5 : FieldAt Tryz.prog 103 5 5 69 1 := fieldAt_of Tryz.underlying103 rfl rfl rfl sz69 (by decide)
theorem one65 : One Tryz.prog 65 := one_of Tryz.underlying65 rfl sz65
theorem one9 : One Tryz.prog 9 := one_of Tryz.underlying9 rfl sz9
theorem one4 : One Tryz.prog 4 := one_of Tryz.underlying4 rfl sz4
theorem sz42 : (Tryz.prog.info? 42).map (·.size) = some 1 := by kernel_rfl
theorem fa103_0 : FieldAt Tryz.prog 103 0 0 42 1 := fieldAt_of Tryz.underlying103 rfl rfl rfl sz42 (by decide)
theorem okR : r.ok Tryz.prog true 103 1 6 := ⟨by decide, ⟨rfl, rd_calen, rd_alen⟩, fa103_1, sl101, by decide, (def_skip Tryz.func118 rfl rfl rfl), nils_ok rfl, ⟨by decide, ⟨rd_uuid, bx16⟩, fun flex => fa107_0, ⟨by decide, ⟨rfl, rd_cstring, rd_string⟩, ⟨rfl, rd_cnstring, rd_nstring⟩, alc9, info_of sz9, fa107_1, ⟨by decide, rfl, rd_tags, fa107_2, done_ok (by decide)⟩⟩⟩, ⟨by decide, NumC.rd (by decide) rd_bool, fun flex => fa103_2, ⟨by decide, NumC.rd (by decide) rd_bool, fun flex => fa103_3, ⟨by decide, NumC.rd (by decide) rd_bool, fun flex => fa103_4, ⟨by decide, rfl, rd_tags, fa103_5, done_ok (by decide)⟩⟩⟩⟩⟩
theorem okW : a.ok Tryz.prog 5 true true 103 := ⟨rfl, ⟨⟨rfl, len_cnull, len_null⟩, rfl, len_compact, len_plain⟩, fa103_1, sl101, ⟨⟨app_uuidC, bx16⟩, fun flex => ⟨fa107_0, (.inr ⟨⟨⟨_, Tryz.underlying105, rfl⟩, info_of sz105⟩, fun _ => rfl⟩)⟩, ⟨fa107_1, one65, by kernel_rfl, one9, ⟨rfl, app_cstrC, app_strC⟩, ⟨rfl, app_cnstrC, app_nstrC⟩, ⟨rfl, fa107_2, tags_len, app_uvarint, tags_each, trivial⟩⟩⟩, ⟨app_boolC, fun flex => ⟨fa103_2, (.inl ⟨one4, rfl, fun _ _ => rfl⟩)⟩, ⟨app_boolC, fun flex => ⟨fa103_3, (.inl ⟨one4, rfl, fun _ _ => rfl⟩)⟩, ⟨app_boolC, fun flex => ⟨fa103_4, (.inl ⟨one4, rfl, fun _ _ => rfl⟩)⟩, ⟨rfl, fa103_5, tags_len, app_uvarint, tags_each, trivial⟩⟩⟩⟩⟩
theorem msgR : MsgR Tryz.prog gn 103 55 76 42 M0 Tryz.f77.ntmps 6 6 none (some 9) r EI :=
  ⟨rd_ok, rd_completeE, und_i32, rdrT, one_i16, fa103_0, (def_skip Tryz.func76 rfl rfl rfl), fun F h => (by cases h), okR, by decide, by decide, by decide, rfl, by decide⟩
theorem msgW : MsgW Tryz.prog hn true 103 42 M1 Tryz.f36.ntmps (some 9) a := ⟨und_int, und_u32, one_i16, fa103_0, okW, rfl, by decide, by decide⟩
theorem plain_of {F : Nat} {fn : Func} (hf : Tryz.prog.funcs[F]? = some fn) (hb : fn.body.isNone = false) (hn : (fn.name == "runtime.NumGoroutine") = false) : Plain Tryz.prog F := ⟨fn, hf, hb, hn⟩
theorem agc : AgC Tryz.prog 5 22 52 35 36 1 EI none (some 9) r (MwM r (some 9)) vlM 6 :=
  mwa ▸ AgC.mk' (sl := 22) (bo := 4) msgR msgW Tryz.func77 bR codeR Tryz.results77 rfl (plain_of Tryz.func77 rfl rfl) Tryz.func35 bD codeD Tryz.results35 Tryz.ntmps35 (plain_of Tryz.func35 rfl rfl)
    Tryz.func36 bW codeW Tryz.results36 rfl (plain_of Tryz.func36 rfl rfl) Tryz.underlying22 info_u8 Tryz.underlying52 (errI_keep (L := 1 + 1) (Nat.lt_succ_self _)) (fun w h => h.2) vlM
    (fun w D b lo hi ver x bs bs0 ver0 hv hc hH => by have e : a.m ver (flexOf (some 9) ver) = MwM r (some 9) ver := congrFun mwa ver; rw [e]; exact hH)
noncomputable def bP : Code := (Tryz.f31.body).getD .skip
noncomputable def bS : Code := (Tryz.f34.body).getD .skip
noncomputable def bV : Code := (Tryz.f32.body).getD .skip
noncomputable def bX : Code := (Tryz.f14.body).getD .skip
theorem codeP : Tryz.f31.body = some (gNP 76 103 55 bP) := by kernel_rfl
theorem codeS : Tryz.f34.body = some (gSV 103 42 bS) := by kernel_rfl
theorem codeV : Tryz.f32.body = some (gK (.int .i16 0) (.int .i16 13) bV) := by kernel_rfl
theorem codeX : Tryz.f14.body = some (gMx 31 32 55 42 3 bX) := by kernel_rfl
theorem alc : Alc Tryz.prog 103 #[.int .i16 0, .slice none 0 0, .bool false, .bool false, .bool false, .map none] := fun o a w h => by
  obtain ⟨d, op, t, p, af, g⟩ := o
  simp only at h
  subst h
  kernel_rfl
theorem new_calls (w : World) : Calls Tryz.prog 31 #[] w fun e w' => e = .returned (.pointer (some ⟨w.heap.size, 0, none⟩)) ∧ Only (fun _ => False) w w' ∧ Blk w' w.heap.size 6 ∧ ∀ q ∈ r.nils, w'.cell? ⟨w.heap.size, q.1, none⟩ = some (nilV q.2) :=
  (NP_calls (ks := 0 :: r.nils.map Prod.fst) Tryz.func31 bP codeP Tryz.results31 Tryz.ntmps31 alc rfl (def_skip Tryz.func76 rfl rfl rfl)).mono fun e w' h => ⟨h.1, h.2.1, h.2.2.1, fun q hq => (h.2.2.2 q.1 (List.mem_cons_of_mem _ (List.mem_map_of_mem hq))).trans (nilsZ rfl q hq)⟩
theorem set_calls (w : World) (b : Nat) (n : Int) (hb : Blk w b 6) : Calls Tryz.prog 34 #[.pointer (some ⟨b, 0, none⟩), .int .i16 n] w fun e w' => e = .returned (.tuple #[]) ∧ Only (· = b) w w' ∧ Upd b 0 1 w w' ∧ w'.cell? ⟨b, 0, none⟩ = some (.int .i16 n) :=
  SV_calls Tryz.func34 bS codeS Tryz.results34 Tryz.ntmps34 fa103_0 hb (by decide)
theorem max_calls (w : World) : Calls Tryz.prog 14 #[] w fun e w' => e = .returned (.int .i64 13) ∧ Only (fun _ => False) w w' :=
  Mx_calls Tryz.func14 bX codeX Tryz.results14 Tryz.ntmps14 und_int Tryz.underlying42 (plain_of Tryz.func31 rfl rfl) (plain_of Tryz.func32 rfl rfl) ((new_calls w).mono fun e w' h => ⟨_, h.1, h.2.1⟩) fun v w' => K_calls Tryz.func32 bV codeV Tryz.results32 Tryz.ntmps32
noncomputable def bA : Code := (Tryz.f16.body).getD .skip
theorem codeA : Tryz.f16.body = some (gAgM 31 34 35 36 55 22 52 52 3 42 bA) := by kernel_rfl
/-- What impl.AgainMetadataRequest comes to. -/
theorem again {w : World} {ver : Int} {vs : Value} {B : Nat} {bs : List UInt8} (hB : B ≤ w.heap.size) (hv : Oc w B vs bs) (hl : bs.length ≤ lim) (hI : EI w) (hr : IntKind.i16.wrap ver = ver) (hf : Fits none (some 9) ver r (MwM r (some 9)) vlM bs) :
    Calls Tryz.prog 16 #[.int .i64 ver, vs] w (AgQ 5 none (some 9) ver r (MwM r (some 9)) vlM w bs) :=
  AgM_calls agc Tryz.func16 bA codeA Tryz.results16 Tryz.ntmps16 (plain_of Tryz.func31 rfl rfl) (plain_of Tryz.func34 rfl rfl) und_int Tryz.underlying42 (by decide) (by decide) new_calls set_calls hB hv hl hI hr hf
theorem ei_up {w w' : World} (h : EI w) (O : Only (fun _ => False) w w') : EI w' := agc.keep w w' h (O.mono fun _ _ h => h.elim)
theorem full {w : World} {vs : Value} {B : Nat} {ver : Int} {bs : List UInt8} (hB : B ≤ w.heap.size) (hv : Oc w B vs bs) (hr : IntKind.i16.wrap ver = ver) (h : Full (r.m ver (flexOf (some 9) ver)).w bs) (hl : bs.length ≤ lim) (hI : EI w) : Calls Tryz.prog 16 #[.int .i64 ver, vs] w (FullP 5 bs w) :=
  have k := fullM h (by unfold lim at hl; unfold lim2; omega)
  (again hB hv hl hI hr k.1).mono fun e w' h => fullP_of (k.2 h)
theorem cut {w : World} {vs : Value} {B : Nat} {ver : Int} {q s : List UInt8} (hB : B ≤ w.heap.size) (hv : Oc w B vs q) (hr : IntKind.i16.wrap ver = ver) (h : Full (r.m ver (flexOf (some 9) ver)).w (q ++ s)) (hs : s ≠ []) (hl : q.length ≤ lim) (hI : EI w) : Calls Tryz.prog 16 #[.int .i64 ver, vs] w (CutP w) :=
  have k := cutM h hs hl
  (again hB hv hl hI hr k.1).mono fun e w' h => k.2 h
theorem any2 {ver : Int} {bs : List UInt8} (hr : IntKind.i16.wrap ver = ver) (hok : (r.m ver (flexOf (some 9) ver)).w.ok = true) (hl : bs.length ≤ 32767) :
    (∃ out, out.length ≤ bs.length ∧ Full (r.m ver (flexOf (some 9) ver)).w out ∧ ∀ {w : World} {vs : Value} {B : Nat}, B ≤ w.heap.size → Oc w B vs bs → EI w → Calls Tryz.prog 16 #[.int .i64 ver, vs] w (FullP 5 out w)) ∨
      ∀ {w : World} {vs : Value} {B : Nat}, B ≤ w.heap.size → Oc w B vs bs → EI w → Calls Tryz.prog 16 #[.int .i64 ver, vs] w (CutP w) := by
  have hf := (anyM hok hl).1
  have hll : bs.length ≤ lim := by unfold lim; omega
  rcases anyM2 hok hl with ⟨out, h1, h4, h5⟩ | h
  · exact .inl ⟨out, h1, h4, fun hB hv hI => (again hB hv hll hI hr hf).mono fun e w' h => h5 h⟩
  · exact .inr fun hB hv hI => (again hB hv hll hI hr hf).mono fun e w' hh => h hh
end Go.Proofs.YtcanhgcceagplaaGreatDoor.Kf.MMetadataRequest
