/- ShareAcknowledgeRequest: its schema; what the thin package's functions over it come to. -/
import Derived.Test.YthfppabceeiajaaGreatDoorMsgB
import Derived.Test.YthfppabceeiajaaGreatDoorLawA
import Derived.Test.YthfppabceeiajaaGreatDoorDfA
import Derived.Handy
import Derived.Test.YthfppabceeiajaaGreatDoorTagC
import Derived.Test.YthfppabceeiajaaGreatDoorTagG
import Derived.Test.YthfppabceeiajaaGreatDoorKbT
import Derived.Test.YthfppabceeiajaaGreatDoorKbV
namespace Go.Proofs.YthfppabceeiajaaGreatDoor.Kf.MShareAcknowledgeRequest
set_option linter.unusedVariables false
set_option linter.unusedSimpArgs false
set_option maxRecDepth 100000
open Go Go.RowKit

def r : R := .val .all 1 1 88 (.str3 true 100 101 102 103) (.val .all 2 2 88 (.str3 true 100 101 102 103) (.val .all 3 3 21 (.prim .i32 98) (.val (.ge 2) 4 4 4 (.prim .bool 122) (.arrS .all 5 5 120 48 [.int .u8 0, .int .u8 0, .int .u8 0, .int .u8 0, .int .u8 0, .int .u8 0, .int .u8 0, .int .u8 0, .int .u8 0, .int .u8 0, .int .u8 0, .int .u8 0, .int .u8 0, .int .u8 0, .int .u8 0, .int .u8 0, .slice none 0 0, .map none] (.two 91 92) none 123 124 127 (.val .all 0 0 82 (.uid 96 82) (.arrS .all 1 16 125 40 [.int .i32 0, .slice none 0 0, .map none] (.two 91 92) none 124 128 131 (.val .all 0 0 21 (.prim .i32 98) (.arrS .all 1 1 129 48 [.int .i64 0, .int .i64 0, .slice none 0 0, .map none] (.two 91 92) none 125 132 135 (.val .all 0 0 2 (.prim .i64 104) (.val .all 1 1 2 (.prim .i64 104) (.arrV .all 2 2 133 1 [.int .i8 0] (.two 91 92) none 116 (.prim .i8 120) (.tags 3 3 68 105 .done)))) (.tags 2 2 68 105 .done))) (.tags 2 17 68 105 .done))) (.tags 6 6 68 105 .done)))))
def a : A := .val .all 1 1 88 (.two (.str true true) (.str false true) 67 68) (.val .all 2 2 88 (.two (.str true true) (.str false true) 67 68) (.val .all 3 3 21 (.one (.prim .i32) 65) (.val (.ge 2) 4 4 4 (.one (.prim .bool) 84) (.arrS .all 5 5 120 48 [.int .u8 0, .int .u8 0, .int .u8 0, .int .u8 0, .int .u8 0, .int .u8 0, .int .u8 0, .int .u8 0, .int .u8 0, .int .u8 0, .int .u8 0, .int .u8 0, .int .u8 0, .int .u8 0, .int .u8 0, .int .u8 0, .slice none 0 0, .map none] none (.two false 62 63) 127 (.val .all 0 0 82 (.uid 64 82) (.arrS .all 1 16 125 40 [.int .i32 0, .slice none 0 0, .map none] none (.two false 62 63) 131 (.val .all 0 0 21 (.one (.prim .i32) 65) (.arrS .all 1 1 129 48 [.int .i64 0, .int .i64 0, .slice none 0 0, .map none] none (.two false 62 63) 135 (.val .all 0 0 2 (.one (.prim .i64) 69) (.val .all 1 1 2 (.one (.prim .i64) 69) (.arrV .all 2 2 133 1 [.int .i8 0] none (.two false 62 63) 116 (.one (.prim .i8) 80) (.tags 3 3 68 71 70 72 .done)))) (.tags 2 2 68 71 70 72 .done))) (.tags 2 17 68 71 70 72 .done))) (.tags 6 6 68 71 70 72 .done)))))
noncomputable def bR : Code := (Tryz.f83.body).getD .skip
noncomputable def bW : Code := (Tryz.f49.body).getD .skip
noncomputable def bD : Code := (Tryz.f48.body).getD .skip
def M0 : Nat := (if ((some 0) : Option Int).isSome then 11 else 10) + r.k
def M1 : Nat := Nat.max ((if ((some 0) : Option Int).isSome then 7 else 6) + a.k) 7
theorem mwa : (fun ver => a.m ver (flexOf (some 0) ver)) = MwM r (some 0) := by
  funext ver
  unfold MwM
  generalize flexOf (some 0) ver = flex
  cases flex <;> rfl
theorem codeR : Tryz.f83.body = some (gRead gn 122 59 81 42 M0 none (some 0) r bR) := by kernel_rfl
theorem codeW : Tryz.f49.body = some (gWrite hn 122 42 M1 (some 0) a bW) := by kernel_rfl
theorem codeD : Tryz.f48.body = some (gRF 83 59 22 4 bD) := by kernel_rfl
theorem sz88 : (Tryz.prog.info? 88).map (·.size) = some 1 := by kernel_rfl
theorem fa122_1 : FieldAt Tryz.prog 122 1 1 88 1 := fieldAt_of Tryz.underlying122 rfl rfl rfl sz88 (by decide)
theorem fa122_2 : FieldAt Tryz.prog 122 2 2 88 1 := fieldAt_of Tryz.underlying122 rfl rfl rfl sz88 (by decide)
theorem sz21 : (Tryz.prog.info? 21).map (·.size) = some 1 := by kernel_rfl
theorem fa122_3 : FieldAt Tryz.prog 122 3 3 21 1 := fieldAt_of Tryz.underlying122 rfl rfl rfl sz21 (by decide)
theorem sz4 : (Tryz.prog.info? 4).map (·.size) = some 1 := by kernel_rfl
theorem fa122_4 : FieldAt Tryz.prog 122 4 4 4 1 := fieldAt_of Tryz.underlying122 rfl rfl rfl sz4 (by decide)
theorem sz120 : (Tryz.prog.info? 120).map (·.size) = some 1 := by kernel_rfl
theorem fa122_5 : FieldAt Tryz.prog 122 5 5 120 1 := fieldAt_of Tryz.underlying122 rfl rfl rfl sz120 (by decide)
theorem sl120 : Sl Tryz.prog 120 18 48 [.int .u8 0, .int .u8 0, .int .u8 0, .int .u8 0, .int .u8 0, .int .u8 0, .int .u8 0, .int .u8 0, .int .u8 0, .int .u8 0, .int .u8 0, .int .u8 0, .int .u8 0, .int .u8 0, .int .u8 0, .int .u8 0, .slice none 0 0, .map none] := sl_of Tryz.underlying120 (by kernel_rfl) sz120 (by decide) rfl
theorem sz82 : (Tryz.prog.info? 82).map (·.size) = some 16 := by kernel_rfl
theorem fa127_0 : FieldAt Tryz.prog 127 0 0 82 16 := fieldAt_of Tryz.underlying127 rfl rfl rfl sz82 (by decide)
theorem bx16 : BxT Tryz.prog 82 16 where
  alc := ⟨#[.int .u8 0, .int .u8 0, .int .u8 0, .int .u8 0, .int .u8 0, .int .u8 0, .int .u8 0, .int .u8 0, .int .u8 0, .int .u8 0, .int .u8 0, .int .u8 0, .int .u8 0, .int .u8 0, .int .u8 0, .int .u8 0], rfl, fun o a w h => by
    obtain ⟨d, op, t, p, af, g⟩ := o
    simp only at h
    subst h
    kernel_rfl⟩
  sz := info_of sz82
  desc := ⟨_, Tryz.underlying82, rfl⟩
theorem sz125 : (Tryz.prog.info? 125).map (·.size) = some 1 := by kernel_rfl
theorem fa127_1 : FieldAt Tryz.prog 127 1 16 125 1 := fieldAt_of Tryz.underlying127 rfl rfl rfl sz125 (by decide)
theorem sl125 : Sl Tryz.prog 125 3 40 [.int .i32 0, .slice none 0 0, .map none] := sl_of Tryz.underlying125 (by kernel_rfl) sz125 (by decide) rfl
theorem fa131_0 : FieldAt Tryz.prog 131 0 0 21 1 := fieldAt_of Tryz.underlying131 rfl rfl rfl sz21 (by decide)
theorem sz129 : (Tryz.prog.info? 129).map (·.size) = some 1 := by kernel_rfl
theorem fa131_1 : FieldAt Tryz.prog 131 1 1 129 1 := fieldAt_of Tryz.underlying131 rfl rfl rfl sz129 (by decide)
theorem sl129 : Sl Tryz.prog 129 4 48 [.int .i64 0, .int .i64 0, .slice none 0 0, .map none] := sl_of Tryz.underlying129 (by kernel_rfl) sz129 (by decide) rfl
theorem sz2 : (Tryz.prog.info? 2).map (·.size) = some 1 := by kernel_rfl
theorem fa135_0 : FieldAt Tryz.prog 135 0 0 2 1 := fieldAt_of Tryz.underlying135 rfl rfl rfl sz2 (by decide)
theorem fa135_1 : FieldAt Tryz.prog 135 1 1 2 1 := fieldAt_of Tryz.underlying135 rfl rfl rfl sz2 (by decide)
theorem sz133 : (Tryz.prog.info? 133).map (·.size) = some 1 := by kernel_rfl
theorem fa135_2 : FieldAt Tryz.prog 135 2 2 133 1 := fieldAt_of Tryz.underlying135 rfl rfl rfl sz133 (by decide)
theorem sl133 : Sl Tryz.prog 133 1 1 [.int .i8 0] := sl_of Tryz.underlying133 (by kernel_rfl) sz133 (by decide) rfl
theorem sz116 : (Tryz.prog.info? 116).map (·.size) = some 1 := by kernel_rfl
theorem sz68 : (Tryz.prog.info? 68).map (·.size) = some 1 := by kernel_rfl
theorem fa135_3 : FieldAt Tryz.prog 135 3 3 68 1 := fieldAt_of Tryz.underlying135 rfl rfl rfl sz68 (by decide)
theorem fa131_2 : FieldAt Tryz.prog 131 2 2 68 1 := fieldAt_of Tryz.underlying131 rfl rfl rfl sz68 (by decide)
theorem fa127_2 : FieldAt Tryz.prog 127 2 17 68 1 := fieldAt_of Tryz.underlying127 rfl rfl rfl sz68 (by decide)
theorem fa122_6 : FieldAt Tryz.prog 122 6 6 68 1 := fieldAt_of Tryz.underlying122 rfl rfl rfl sz68 (by decide)
theorem one88 : One Tryz.prog 88 := one_of Tryz.underlying88 rfl sz88
theorem one21 : One Tryz.prog 21 := one_of Tryz.underlying21 rfl sz21
theorem one4 : One Tryz.prog 4 := one_of Tryz.underlying4 rfl sz4
theorem one2 : One Tryz.prog 2 := one_of Tryz.underlying2 rfl sz2
theorem one116 : One Tryz.prog 116 := one_of Tryz.underlying116 rfl sz116
theorem sz42 : (Tryz.prog.info? 42).map (·.size) = some 1 := by kernel_rfl
theorem fa122_0 : FieldAt Tryz.prog 122 0 0 42 1 := fieldAt_of Tryz.underlying122 rfl rfl rfl sz42 (by decide)
theorem okR : r.ok Tryz.prog true 122 1 7 := ⟨by decide, ⟨rfl, rd_cnstring, rd_nstring⟩, fun flex => fa122_1, ⟨by decide, ⟨rfl, rd_cnstring, rd_nstring⟩, fun flex => fa122_2, ⟨by decide, NumC.rd (by decide) rd_int32, fun flex => fa122_3, ⟨by decide, NumC.rd (by decide) rd_bool, fun flex => fa122_4, ⟨by decide, ⟨rfl, rd_calen, rd_alen⟩, fa122_5, sl120, by decide, (def_skip Tryz.func123 rfl rfl rfl), nils_ok rfl, ⟨by decide, ⟨rd_uuid, bx16⟩, fun flex => fa127_0, ⟨by decide, ⟨rfl, rd_calen, rd_alen⟩, fa127_1, sl125, by decide, (def_skip Tryz.func124 rfl rfl rfl), nils_ok rfl, ⟨by decide, NumC.rd (by decide) rd_int32, fun flex => fa131_0, ⟨by decide, ⟨rfl, rd_calen, rd_alen⟩, fa131_1, sl129, by decide, (def_skip Tryz.func125 rfl rfl rfl), nils_ok rfl, ⟨by decide, NumC.rd (by decide) rd_int64, fun flex => fa135_0, ⟨by decide, NumC.rd (by decide) rd_int64, fun flex => fa135_1, ⟨by decide, NumC.rd (by decide) rd_int8, ⟨rfl, rd_calen, rd_alen⟩, fa135_2, sl133, by decide, info_of sz116, fun flex => rfl, ⟨by decide, rfl, rd_tags, fa135_3, done_ok (by decide)⟩⟩⟩⟩, ⟨by decide, rfl, rd_tags, fa131_2, done_ok (by decide)⟩⟩⟩, ⟨by decide, rfl, rd_tags, fa127_2, done_ok (by decide)⟩⟩⟩, ⟨by decide, rfl, rd_tags, fa122_6, done_ok (by decide)⟩⟩⟩⟩⟩⟩
theorem okW : a.ok Tryz.prog 5 true true 122 := ⟨⟨rfl, app_cnstrC, app_nstrC⟩, fun flex => by cases flex <;> exact ⟨fa122_1, (.inl ⟨one88, rfl, fun _ _ => rfl⟩)⟩, ⟨⟨rfl, app_cnstrC, app_nstrC⟩, fun flex => by cases flex <;> exact ⟨fa122_2, (.inl ⟨one88, rfl, fun _ _ => rfl⟩)⟩, ⟨app_i32C, fun flex => ⟨fa122_3, (.inl ⟨one21, rfl, fun _ _ => rfl⟩)⟩, ⟨app_boolC, fun flex => ⟨fa122_4, (.inl ⟨one4, rfl, fun _ _ => rfl⟩)⟩, ⟨rfl, ⟨rfl, len_compact, len_plain⟩, fa122_5, sl120, ⟨⟨app_uuidC, bx16⟩, fun flex => ⟨fa127_0, (.inr ⟨⟨⟨_, Tryz.underlying82, rfl⟩, info_of sz82⟩, fun _ => rfl⟩)⟩, ⟨rfl, ⟨rfl, len_compact, len_plain⟩, fa127_1, sl125, ⟨app_i32C, fun flex => ⟨fa131_0, (.inl ⟨one21, rfl, fun _ _ => rfl⟩)⟩, ⟨rfl, ⟨rfl, len_compact, len_plain⟩, fa131_1, sl129, ⟨app_i64C, fun flex => ⟨fa135_0, (.inl ⟨one2, rfl, fun _ _ => rfl⟩)⟩, ⟨app_i64C, fun flex => ⟨fa135_1, (.inl ⟨one2, rfl, fun _ _ => rfl⟩)⟩, ⟨rfl, ⟨rfl, len_compact, len_plain⟩, fa135_2, sl133, app_i8C, fun flex => ⟨by cases flex <;> rfl, by cases flex <;> exact (.inl ⟨one116, rfl, fun _ _ => rfl⟩)⟩, ⟨rfl, fa135_3, tags_len, app_uvarint, tags_each, trivial⟩⟩⟩⟩, ⟨rfl, fa131_2, tags_len, app_uvarint, tags_each, trivial⟩⟩⟩, ⟨rfl, fa127_2, tags_len, app_uvarint, tags_each, trivial⟩⟩⟩, ⟨rfl, fa122_6, tags_len, app_uvarint, tags_each, trivial⟩⟩⟩⟩⟩⟩
theorem msgR : MsgR Tryz.prog gn 122 59 81 42 M0 Tryz.f83.ntmps 7 7 none (some 0) r EI :=
  ⟨rd_ok, rd_completeE, und_i32, rdrT, one_i16, fa122_0, (def_skip Tryz.func81 rfl rfl rfl), fun F h => (by cases h), okR, by decide, by decide, by decide, rfl, by decide⟩
theorem msgW : MsgW Tryz.prog hn true 122 42 M1 Tryz.f49.ntmps (some 0) a := ⟨und_int, und_u32, one_i16, fa122_0, okW, rfl, by decide, by decide⟩
theorem plain_of {F : Nat} {fn : Func} (hf : Tryz.prog.funcs[F]? = some fn) (hb : fn.body.isNone = false) (hn : (fn.name == "runtime.NumGoroutine") = false) : Plain Tryz.prog F := ⟨fn, hf, hb, hn⟩
theorem agc : AgC Tryz.prog 5 22 52 48 49 0 EI none (some 0) r (MwM r (some 0)) vlM 7 :=
  mwa ▸ AgC.mk' (sl := 22) (bo := 4) msgR msgW Tryz.func83 bR codeR Tryz.results83 rfl (plain_of Tryz.func83 rfl rfl) Tryz.func48 bD codeD Tryz.results48 Tryz.ntmps48 (plain_of Tryz.func48 rfl rfl)
    Tryz.func49 bW codeW Tryz.results49 rfl (plain_of Tryz.func49 rfl rfl) Tryz.underlying22 info_u8 Tryz.underlying52 (errI_keep (L := 0 + 1) (Nat.lt_succ_self _)) (fun w h => h.2) vlM
    (fun w D b lo hi ver x bs bs0 ver0 hv hc hH => by have e : a.m ver (flexOf (some 0) ver) = MwM r (some 0) ver := congrFun mwa ver; rw [e]; exact hH)
noncomputable def bP : Code := (Tryz.f44.body).getD .skip
noncomputable def bS : Code := (Tryz.f47.body).getD .skip
noncomputable def bV : Code := (Tryz.f45.body).getD .skip
noncomputable def bX : Code := (Tryz.f20.body).getD .skip
theorem codeP : Tryz.f44.body = some (gNP 81 122 59 bP) := by kernel_rfl
theorem codeS : Tryz.f47.body = some (gSV 122 42 bS) := by kernel_rfl
theorem codeV : Tryz.f45.body = some (gK (.int .i16 0) (.int .i16 2) bV) := by kernel_rfl
theorem codeX : Tryz.f20.body = some (gMx 44 45 59 42 3 bX) := by kernel_rfl
theorem alc : Alc Tryz.prog 122 #[.int .i16 0, .pointer none, .pointer none, .int .i32 0, .bool false, .slice none 0 0, .map none] := fun o a w h => by
  obtain ⟨d, op, t, p, af, g⟩ := o
  simp only at h
  subst h
  kernel_rfl
theorem new_calls (w : World) : Calls Tryz.prog 44 #[] w fun e w' => e = .returned (.pointer (some ⟨w.heap.size, 0, none⟩)) ∧ Only (fun _ => False) w w' ∧ Blk w' w.heap.size 7 ∧ ∀ q ∈ r.nils, w'.cell? ⟨w.heap.size, q.1, none⟩ = some (nilV q.2) :=
  (NP_calls (ks := 0 :: r.nils.map Prod.fst) Tryz.func44 bP codeP Tryz.results44 Tryz.ntmps44 alc rfl (def_skip Tryz.func81 rfl rfl rfl)).mono fun e w' h => ⟨h.1, h.2.1, h.2.2.1, fun q hq => (h.2.2.2 q.1 (List.mem_cons_of_mem _ (List.mem_map_of_mem hq))).trans (nilsZ rfl q hq)⟩
theorem set_calls (w : World) (b : Nat) (n : Int) (hb : Blk w b 7) : Calls Tryz.prog 47 #[.pointer (some ⟨b, 0, none⟩), .int .i16 n] w fun e w' => e = .returned (.tuple #[]) ∧ Only (· = b) w w' ∧ Upd b 0 1 w w' ∧ w'.cell? ⟨b, 0, none⟩ = some (.int .i16 n) :=
  SV_calls Tryz.func47 bS codeS Tryz.results47 Tryz.ntmps47 fa122_0 hb (by decide)
theorem max_calls (w : World) : Calls Tryz.prog 20 #[] w fun e w' => e = .returned (.int .i64 2) ∧ Only (fun _ => False) w w' :=
  Mx_calls Tryz.func20 bX codeX Tryz.results20 Tryz.ntmps20 und_int Tryz.underlying42 (plain_of Tryz.func44 rfl rfl) (plain_of Tryz.func45 rfl rfl) ((new_calls w).mono fun e w' h => ⟨_, h.1, h.2.1⟩) fun v w' => K_calls Tryz.func45 bV codeV Tryz.results45 Tryz.ntmps45
noncomputable def bA : Code := (Tryz.f22.body).getD .skip
theorem codeA : Tryz.f22.body = some (gAgM 44 47 48 49 59 22 52 52 3 42 bA) := by kernel_rfl
/-- What impl.AgainShareAcknowledgeRequest comes to. -/
theorem again {w : World} {ver : Int} {vs : Value} {B : Nat} {bs : List UInt8} (hB : B ≤ w.heap.size) (hv : Oc w B vs bs) (hl : bs.length ≤ lim) (hI : EI w) (hr : IntKind.i16.wrap ver = ver) (hf : Fits none (some 0) ver r (MwM r (some 0)) vlM bs) :
    Calls Tryz.prog 22 #[.int .i64 ver, vs] w (AgQ 5 none (some 0) ver r (MwM r (some 0)) vlM w bs) :=
  AgM_calls agc Tryz.func22 bA codeA Tryz.results22 Tryz.ntmps22 (plain_of Tryz.func44 rfl rfl) (plain_of Tryz.func47 rfl rfl) und_int Tryz.underlying42 (by decide) (by decide) new_calls set_calls hB hv hl hI hr hf
theorem ei_up {w w' : World} (h : EI w) (O : Only (fun _ => False) w w') : EI w' := agc.keep w w' h (O.mono fun _ _ h => h.elim)
theorem full {w : World} {vs : Value} {B : Nat} {ver : Int} {bs : List UInt8} (hB : B ≤ w.heap.size) (hv : Oc w B vs bs) (hr : IntKind.i16.wrap ver = ver) (h : Full (r.m ver (flexOf (some 0) ver)).w bs) (hl : bs.length ≤ lim) (hI : EI w) : Calls Tryz.prog 22 #[.int .i64 ver, vs] w (FullP 5 bs w) :=
  have k := fullM h (by unfold lim at hl; unfold lim2; omega)
  (again hB hv hl hI hr k.1).mono fun e w' h => fullP_of (k.2 h)
theorem cut {w : World} {vs : Value} {B : Nat} {ver : Int} {q s : List UInt8} (hB : B ≤ w.heap.size) (hv : Oc w B vs q) (hr : IntKind.i16.wrap ver = ver) (h : Full (r.m ver (flexOf (some 0) ver)).w (q ++ s)) (hs : s ≠ []) (hl : q.length ≤ lim) (hI : EI w) : Calls Tryz.prog 22 #[.int .i64 ver, vs] w (CutP w) :=
  have k := cutM h hs hl
  (again hB hv hl hI hr k.1).mono fun e w' h => k.2 h
theorem any2 {ver : Int} {bs : List UInt8} (hr : IntKind.i16.wrap ver = ver) (hok : (r.m ver (flexOf (some 0) ver)).w.ok = true) (hl : bs.length ≤ 32767) :
    (∃ out, out.length ≤ bs.length ∧ Full (r.m ver (flexOf (some 0) ver)).w out ∧ ∀ {w : World} {vs : Value} {B : Nat}, B ≤ w.heap.size → Oc w B vs bs → EI w → Calls Tryz.prog 22 #[.int .i64 ver, vs] w (FullP 5 out w)) ∨
      ∀ {w : World} {vs : Value} {B : Nat}, B ≤ w.heap.size → Oc w B vs bs → EI w → Calls Tryz.prog 22 #[.int .i64 ver, vs] w (CutP w) := by
  have hf := (anyM hok hl).1
  have hll : bs.length ≤ lim := by unfold lim; omega
  rcases anyM2 hok hl with ⟨out, h1, h4, h5⟩ | h
  · exact .inl ⟨out, h1, h4, fun hB hv hI => (again hB hv hll hI hr hf).mono fun e w' h => h5 h⟩
  · exact .inr fun hB hv hI => (again hB hv hll hI hr hf).mono fun e w' hh => h hh
end Go.Proofs.YthfppabceeiajaaGreatDoor.Kf.MShareAcknowledgeRequest
