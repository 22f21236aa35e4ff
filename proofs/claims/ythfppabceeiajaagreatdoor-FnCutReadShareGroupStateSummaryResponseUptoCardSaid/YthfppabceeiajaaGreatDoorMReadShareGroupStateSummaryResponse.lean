/- ReadShareGroupStateSummaryResponse: its schema; what the thin package's functions over it come to. -/
import Derived.Test.YthfppabceeiajaaGreatDoorMsgB
import Derived.Test.YthfppabceeiajaaGreatDoorLawA
import Derived.Test.YthfppabceeiajaaGreatDoorDfA
import Derived.Handy
import Derived.Test.YthfppabceeiajaaGreatDoorTagC
import Derived.Test.YthfppabceeiajaaGreatDoorTagG
import Derived.Test.YthfppabceeiajaaGreatDoorKbT
import Derived.Test.YthfppabceeiajaaGreatDoorKbV
namespace Go.Proofs.YthfppabceeiajaaGreatDoor.Kf.MReadShareGroupStateSummaryResponse
set_option linter.unusedVariables false
set_option linter.unusedSimpArgs false
set_option maxRecDepth 100000
open Go Go.RowKit

def r : R := .arrS .all 1 1 65 48 [.int .u8 0, .int .u8 0, .int .u8 0, .int .u8 0, .int .u8 0, .int .u8 0, .int .u8 0, .int .u8 0, .int .u8 0, .int .u8 0, .int .u8 0, .int .u8 0, .int .u8 0, .int .u8 0, .int .u8 0, .int .u8 0, .slice none 0 0, .map none] (.two 91 92) none 95 81 85 (.val .all 0 0 82 (.uid 96 82) (.arrS .all 1 16 83 48 [.int .i32 0, .int .i16 0, .pointer none, .int .i32 0, .int .i32 0, .int .i64 0, .int .i32 0, .map none] (.two 91 92) none 97 87 90 (.val .all 0 0 21 (.prim .i32 98) (.val .all 1 1 42 (.prim .i16 99) (.val .all 2 2 88 (.str3 true 100 101 102 103) (.val .all 3 3 21 (.prim .i32 98) (.val .all 4 4 21 (.prim .i32 98) (.val .all 5 5 2 (.prim .i64 104) (.val (.ge 1) 6 6 21 (.prim .i32 98) (.tags 7 7 68 105 .done)))))))) (.tags 2 17 68 105 .done))) (.tags 2 2 68 105 .done)
def a : A := .arrS .all 1 1 65 48 [.int .u8 0, .int .u8 0, .int .u8 0, .int .u8 0, .int .u8 0, .int .u8 0, .int .u8 0, .int .u8 0, .int .u8 0, .int .u8 0, .int .u8 0, .int .u8 0, .int .u8 0, .int .u8 0, .int .u8 0, .int .u8 0, .slice none 0 0, .map none] none (.two false 62 63) 85 (.val .all 0 0 82 (.uid 64 82) (.arrS .all 1 16 83 48 [.int .i32 0, .int .i16 0, .pointer none, .int .i32 0, .int .i32 0, .int .i64 0, .int .i32 0, .map none] none (.two false 62 63) 90 (.val .all 0 0 21 (.one (.prim .i32) 65) (.val .all 1 1 42 (.one (.prim .i16) 66) (.val .all 2 2 88 (.two (.str true true) (.str false true) 67 68) (.val .all 3 3 21 (.one (.prim .i32) 65) (.val .all 4 4 21 (.one (.prim .i32) 65) (.val .all 5 5 2 (.one (.prim .i64) 69) (.val (.ge 1) 6 6 21 (.one (.prim .i32) 65) (.tags 7 7 68 71 70 72 .done)))))))) (.tags 2 17 68 71 70 72 .done))) (.tags 2 2 68 71 70 72 .done)
noncomputable def bR : Code := (Tryz.f61.body).getD .skip
noncomputable def bW : Code := (Tryz.f30.body).getD .skip
noncomputable def bD : Code := (Tryz.f29.body).getD .skip
def M0 : Nat := (if ((some 0) : Option Int).isSome then 11 else 10) + r.k
def M1 : Nat := Nat.max ((if ((some 0) : Option Int).isSome then 7 else 6) + a.k) 7
theorem mwa : (fun ver => a.m ver (flexOf (some 0) ver)) = MwM r (some 0) := by
  funext ver
  unfold MwM
  generalize flexOf (some 0) ver = flex
  cases flex <;> rfl
theorem codeR : Tryz.f61.body = some (gRead gn 70 43 51 42 M0 none (some 0) r bR) := by kernel_rfl
theorem codeW : Tryz.f30.body = some (gWrite hn 70 42 M1 (some 0) a bW) := by kernel_rfl
theorem codeD : Tryz.f29.body = some (gRF 61 43 22 4 bD) := by kernel_rfl
theorem sz65 : (Tryz.prog.info? 65).map (·.size) = some 1 := by kernel_rfl
theorem fa70_1 : FieldAt Tryz.prog 70 1 1 65 1 := fieldAt_of Tryz.underlying70 rfl rfl rfl sz65 (by decide)
theorem sl65 : Sl Tryz.prog 65 18 48 [.int .u8 0, .int .u8 0, .int .u8 0, .int .u8 0, .int .u8 0, .int .u8 0, .int .u8 0, .int .u8 0, .int .u8 0, .int .u8 0, .int .u8 0, .int .u8 0, .int .u8 0, .int .u8 0, .int .u8 0, .int .u8 0, .slice none 0 0, .map none] := sl_of Tryz.underlying65 (by kernel_rfl) sz65 (by decide) rfl
theorem sz82 : (Tryz.prog.info? 82).map (·.size) = some 16 := by kernel_rfl
theorem fa85_0 : FieldAt Tryz.prog 85 0 0 82 16 := fieldAt_of Tryz.underlying85 rfl rfl rfl sz82 (by decide)
theorem bx16 : BxT Tryz.prog 82 16 where
  alc := ⟨#[.int .u8 0, .int .u8 0, .int .u8 0, .int .u8 0, .int .u8 0, .int .u8 0, .int .u8 0, .int .u8 0, .int .u8 0, .int .u8 0, .int .u8 0, .int .u8 0, .int .u8 0, .int .u8 0, .int .u8 0, .int .u8 0], rfl, fun o a w h => by
    obtain ⟨d, op, t, p, af, g⟩ := o
    simp only at h
    subst h
    kernel_rfl⟩
  sz := info_of sz82
  desc := ⟨_, Tryz.underlying82, rfl⟩
theorem sz83 : (Tryz.prog.info? 83).map (·.size) = some 1 := by kernel_rfl
theorem fa85_1 : FieldAt Tryz.prog 85 1 16 83 1 := fieldAt_of Tryz.underlying85 rfl rfl rfl sz83 (by decide)
theorem sl83 : Sl Tryz.prog 83 8 48 [.int .i32 0, .int .i16 0, .pointer none, .int .i32 0, .int .i32 0, .int .i64 0, .int .i32 0, .map none] := sl_of Tryz.underlying83 (by kernel_rfl) sz83 (by decide) rfl
theorem sz21 : (Tryz.prog.info? 21).map (·.size) = some 1 := by kernel_rfl
theorem fa90_0 : FieldAt Tryz.prog 90 0 0 21 1 := fieldAt_of Tryz.underlying90 rfl rfl rfl sz21 (by decide)
theorem sz42 : (Tryz.prog.info? 42).map (·.size) = some 1 := by kernel_rfl
theorem fa90_1 : FieldAt Tryz.prog 90 1 1 42 1 := fieldAt_of Tryz.underlying90 rfl rfl rfl sz42 (by decide)
theorem sz88 : (Tryz.prog.info? 88).map (·.size) = some 1 := by kernel_rfl
theorem fa90_2 : FieldAt Tryz.prog 90 2 2 88 1 := fieldAt_of Tryz.underlying90 rfl rfl rfl sz88 (by decide)
theorem fa90_3 : FieldAt Tryz.prog 90 3 3 21 1 := fieldAt_of Tryz.underlying90 rfl rfl rfl sz21 (by decide)
theorem fa90_4 : FieldAt Tryz.prog 90 4 4 21 1 := fieldAt_of Tryz.underlying90 rfl rfl rfl sz21 (by decide)
theorem sz2 : (Tryz.prog.info? 2).map (·.size) = some 1 := by kernel_rfl
theorem fa90_5 : FieldAt Tryz.prog 90 5 5 2 1 := fieldAt_of Tryz.underlying90 rfl rfl rfl sz2 (by decide)
theorem fa90_6 : FieldAt Tryz.prog 90 6 6 21 1 := fieldAt_of Tryz.underlying90 rfl rfl rfl sz21 (by decide)
theorem sz68 : (Tryz.prog.info? 68).map (·.size) = some 1 := by kernel_rfl
theorem fa90_7 : FieldAt Tryz.prog 90 7 7 68 1 := fieldAt_of Tryz.underlying90 rfl rfl rfl sz68 (by decide)
def dl_ReadShareGroupStateSummaryResponseTopicPartition : List DI := [.set ⟨6, 6, 21, .int .i32 (-1)⟩]
noncomputable def bDf_ReadShareGroupStateSummaryResponseTopicPartition : Code := (Tryz.f97.body).getD .skip
theorem def_ReadShareGroupStateSummaryResponseTopicPartition : DefC Tryz.prog 97 8 [] :=
  def_set (T := 90) (l := dl_ReadShareGroupStateSummaryResponseTopicPartition) Tryz.func97 bDf_ReadShareGroupStateSummaryResponseTopicPartition (by kernel_rfl) Tryz.results97 Tryz.ntmps97 (by decide) rfl (fun x hx => by
    simp only [dl_ReadShareGroupStateSummaryResponseTopicPartition, List.mem_cons, List.not_mem_nil, or_false] at hx
    subst hx; exact ⟨fa90_6, rfl, rfl, by decide, by decide⟩)
theorem fa85_2 : FieldAt Tryz.prog 85 2 17 68 1 := fieldAt_of Tryz.underlying85 rfl rfl rfl sz68 (by decide)
theorem fa70_2 : FieldAt Tryz.prog 70 2 2 68 1 := fieldAt_of Tryz.underlying70 rfl rfl rfl sz68 (by decide)
theorem one21 : One Tryz.prog 21 := one_of Tryz.underlying21 rfl sz21
theorem one42 : One Tryz.prog 42 := one_of Tryz.underlying42 rfl sz42
theorem one88 : One Tryz.prog 88 := one_of Tryz.underlying88 rfl sz88
theorem one2 : One Tryz.prog 2 := one_of Tryz.underlying2 rfl sz2
theorem fa70_0 : FieldAt Tryz.prog 70 0 0 42 1 := fieldAt_of Tryz.underlying70 rfl rfl rfl sz42 (by decide)
theorem okR : r.ok Tryz.prog true 70 1 3 := ⟨by decide, ⟨rfl, rd_calen, rd_alen⟩, fa70_1, sl65, by decide, (def_skip Tryz.func95 rfl rfl rfl), nils_ok rfl, ⟨by decide, ⟨rd_uuid, bx16⟩, fun flex => fa85_0, ⟨by decide, ⟨rfl, rd_calen, rd_alen⟩, fa85_1, sl83, by decide, def_ReadShareGroupStateSummaryResponseTopicPartition, nils_ok rfl, ⟨by decide, NumC.rd (by decide) rd_int32, fun flex => fa90_0, ⟨by decide, NumC.rd (by decide) rd_int16, fun flex => fa90_1, ⟨by decide, ⟨rfl, rd_cnstring, rd_nstring⟩, fun flex => fa90_2, ⟨by decide, NumC.rd (by decide) rd_int32, fun flex => fa90_3, ⟨by decide, NumC.rd (by decide) rd_int32, fun flex => fa90_4, ⟨by decide, NumC.rd (by decide) rd_int64, fun flex => fa90_5, ⟨by decide, NumC.rd (by decide) rd_int32, fun flex => fa90_6, ⟨by decide, rfl, rd_tags, fa90_7, done_ok (by decide)⟩⟩⟩⟩⟩⟩⟩⟩, ⟨by decide, rfl, rd_tags, fa85_2, done_ok (by decide)⟩⟩⟩, ⟨by decide, rfl, rd_tags, fa70_2, done_ok (by decide)⟩⟩
theorem okW : a.ok Tryz.prog 5 true true 70 := ⟨rfl, ⟨rfl, len_compact, len_plain⟩, fa70_1, sl65, ⟨⟨app_uuidC, bx16⟩, fun flex => ⟨fa85_0, (.inr ⟨⟨⟨_, Tryz.underlying82, rfl⟩, info_of sz82⟩, fun _ => rfl⟩)⟩, ⟨rfl, ⟨rfl, len_compact, len_plain⟩, fa85_1, sl83, ⟨app_i32C, fun flex => ⟨fa90_0, (.inl ⟨one21, rfl, fun _ _ => rfl⟩)⟩, ⟨app_i16C, fun flex => ⟨fa90_1, (.inl ⟨one42, rfl, fun _ _ => rfl⟩)⟩, ⟨⟨rfl, app_cnstrC, app_nstrC⟩, fun flex => by cases flex <;> exact ⟨fa90_2, (.inl ⟨one88, rfl, fun _ _ => rfl⟩)⟩, ⟨app_i32C, fun flex => ⟨fa90_3, (.inl ⟨one21, rfl, fun _ _ => rfl⟩)⟩, ⟨app_i32C, fun flex => ⟨fa90_4, (.inl ⟨one21, rfl, fun _ _ => rfl⟩)⟩, ⟨app_i64C, fun flex => ⟨fa90_5, (.inl ⟨one2, rfl, fun _ _ => rfl⟩)⟩, ⟨app_i32C, fun flex => ⟨fa90_6, (.inl ⟨one21, rfl, fun _ _ => rfl⟩)⟩, ⟨rfl, fa90_7, tags_len, app_uvarint, tags_each, trivial⟩⟩⟩⟩⟩⟩⟩⟩, ⟨rfl, fa85_2, tags_len, app_uvarint, tags_each, trivial⟩⟩⟩, ⟨rfl, fa70_2, tags_len, app_uvarint, tags_each, trivial⟩⟩
theorem msgR : MsgR Tryz.prog gn 70 43 51 42 M0 Tryz.f61.ntmps 3 3 none (some 0) r EI :=
  ⟨rd_ok, rd_completeE, und_i32, rdrT, one_i16, fa70_0, (def_skip Tryz.func51 rfl rfl rfl), fun F h => (by cases h), okR, by decide, by decide, by decide, rfl, by decide⟩
theorem msgW : MsgW Tryz.prog hn true 70 42 M1 Tryz.f30.ntmps (some 0) a := ⟨und_int, und_u32, one_i16, fa70_0, okW, rfl, by decide, by decide⟩
theorem plain_of {F : Nat} {fn : Func} (hf : Tryz.prog.funcs[F]? = some fn) (hb : fn.body.isNone = false) (hn : (fn.name == "runtime.NumGoroutine") = false) : Plain Tryz.prog F := ⟨fn, hf, hb, hn⟩
theorem agc : AgC Tryz.prog 5 22 52 29 30 0 EI none (some 0) r (MwM r (some 0)) vlM 3 :=
  mwa ▸ AgC.mk' (sl := 22) (bo := 4) msgR msgW Tryz.func61 bR codeR Tryz.results61 rfl (plain_of Tryz.func61 rfl rfl) Tryz.func29 bD codeD Tryz.results29 Tryz.ntmps29 (plain_of Tryz.func29 rfl rfl)
    Tryz.func30 bW codeW Tryz.results30 rfl (plain_of Tryz.func30 rfl rfl) Tryz.underlying22 info_u8 Tryz.underlying52 (errI_keep (L := 0 + 1) (Nat.lt_succ_self _)) (fun w h => h.2) vlM
    (fun w D b lo hi ver x bs bs0 ver0 hv hc hH => by have e : a.m ver (flexOf (some 0) ver) = MwM r (some 0) ver := congrFun mwa ver; rw [e]; exact hH)
noncomputable def bP : Code := (Tryz.f24.body).getD .skip
noncomputable def bS : Code := (Tryz.f28.body).getD .skip
noncomputable def bV : Code := (Tryz.f25.body).getD .skip
noncomputable def bX : Code := (Tryz.f8.body).getD .skip
theorem codeP : Tryz.f24.body = some (gNP 51 70 43 bP) := by kernel_rfl
theorem codeS : Tryz.f28.body = some (gSV 70 42 bS) := by kernel_rfl
theorem codeV : Tryz.f25.body = some (gK (.int .i16 0) (.int .i16 1) bV) := by kernel_rfl
theorem codeX : Tryz.f8.body = some (gMx 24 25 43 42 3 bX) := by kernel_rfl
theorem alc : Alc Tryz.prog 70 #[.int .i16 0, .slice none 0 0, .map none] := fun o a w h => by
  obtain ⟨d, op, t, p, af, g⟩ := o
  simp only at h
  subst h
  kernel_rfl
theorem new_calls (w : World) : Calls Tryz.prog 24 #[] w fun e w' => e = .returned (.pointer (some ⟨w.heap.size, 0, none⟩)) ∧ Only (fun _ => False) w w' ∧ Blk w' w.heap.size 3 ∧ ∀ q ∈ r.nils, w'.cell? ⟨w.heap.size, q.1, none⟩ = some (nilV q.2) :=
  (NP_calls (ks := 0 :: r.nils.map Prod.fst) Tryz.func24 bP codeP Tryz.results24 Tryz.ntmps24 alc rfl (def_skip Tryz.func51 rfl rfl rfl)).mono fun e w' h => ⟨h.1, h.2.1, h.2.2.1, fun q hq => (h.2.2.2 q.1 (List.mem_cons_of_mem _ (List.mem_map_of_mem hq))).trans (nilsZ rfl q hq)⟩
theorem set_calls (w : World) (b : Nat) (n : Int) (hb : Blk w b 3) : Calls Tryz.prog 28 #[.pointer (some ⟨b, 0, none⟩), .int .i16 n] w fun e w' => e = .returned (.tuple #[]) ∧ Only (· = b) w w' ∧ Upd b 0 1 w w' ∧ w'.cell? ⟨b, 0, none⟩ = some (.int .i16 n) :=
  SV_calls Tryz.func28 bS codeS Tryz.results28 Tryz.ntmps28 fa70_0 hb (by decide)
theorem max_calls (w : World) : Calls Tryz.prog 8 #[] w fun e w' => e = .returned (.int .i64 1) ∧ Only (fun _ => False) w w' :=
  Mx_calls Tryz.func8 bX codeX Tryz.results8 Tryz.ntmps8 und_int Tryz.underlying42 (plain_of Tryz.func24 rfl rfl) (plain_of Tryz.func25 rfl rfl) ((new_calls w).mono fun e w' h => ⟨_, h.1, h.2.1⟩) fun v w' => K_calls Tryz.func25 bV codeV Tryz.results25 Tryz.ntmps25
noncomputable def bA : Code := (Tryz.f12.body).getD .skip
theorem codeA : Tryz.f12.body = some (gAgM 24 28 29 30 43 22 52 52 3 42 bA) := by kernel_rfl
/-- What impl.AgainReadShareGroupStateSummaryResponse comes to. -/
theorem again {w : World} {ver : Int} {vs : Value} {B : Nat} {bs : List UInt8} (hB : B ≤ w.heap.size) (hv : Oc w B vs bs) (hl : bs.length ≤ lim) (hI : EI w) (hr : IntKind.i16.wrap ver = ver) (hf : Fits none (some 0) ver r (MwM r (some 0)) vlM bs) :
    Calls Tryz.prog 12 #[.int .i64 ver, vs] w (AgQ 5 none (some 0) ver r (MwM r (some 0)) vlM w bs) :=
  AgM_calls agc Tryz.func12 bA codeA Tryz.results12 Tryz.ntmps12 (plain_of Tryz.func24 rfl rfl) (plain_of Tryz.func28 rfl rfl) und_int Tryz.underlying42 (by decide) (by decide) new_calls set_calls hB hv hl hI hr hf
theorem ei_up {w w' : World} (h : EI w) (O : Only (fun _ => False) w w') : EI w' := agc.keep w w' h (O.mono fun _ _ h => h.elim)
theorem full {w : World} {vs : Value} {B : Nat} {ver : Int} {bs : List UInt8} (hB : B ≤ w.heap.size) (hv : Oc w B vs bs) (hr : IntKind.i16.wrap ver = ver) (h : Full (r.m ver (flexOf (some 0) ver)).w bs) (hl : bs.length ≤ lim) (hI : EI w) : Calls Tryz.prog 12 #[.int .i64 ver, vs] w (FullP 5 bs w) :=
  have k := fullM h (by unfold lim at hl; unfold lim2; omega)
  (again hB hv hl hI hr k.1).mono fun e w' h => fullP_of (k.2 h)
theorem cut {w : World} {vs : Value} {B : Nat} {ver : Int} {q s : List UInt8} (hB : B ≤ w.heap.size) (hv : Oc w B vs q) (hr : IntKind.i16.wrap ver = ver) (h : Full (r.m ver (flexOf (some 0) ver)).w (q ++ s)) (hs : s ≠ []) (hl : q.length ≤ lim) (hI : EI w) : Calls Tryz.prog 12 #[.int .i64 ver, vs] w (CutP w) :=
  have k := cutM h hs hl
  (again hB hv hl hI hr k.1).mono fun e w' h => k.2 h
theorem any2 {ver : Int} {bs : List UInt8} (hr : IntKind.i16.wrap ver = ver) (hok : (r.m ver (flexOf (some 0) ver)).w.ok = true) (hl : bs.length ≤ 32767) :
    (∃ out, out.length ≤ bs.length ∧ Full (r.m ver (flexOf (some 0) ver)).w out ∧ ∀ {w : World} {vs : Value} {B : Nat}, B ≤ w.heap.size → Oc w B vs bs → EI w → Calls Tryz.prog 12 #[.int .i64 ver, vs] w (FullP 5 out w)) ∨
      ∀ {w : World} {vs : Value} {B : Nat}, B ≤ w.heap.size → Oc w B vs bs → EI w → Calls Tryz.prog 12 #[.int .i64 ver, vs] w (CutP w) := by
  have hf := (anyM hok hl).1
  have hll : bs.length ≤ lim := by unfold lim; omega
  rcases anyM2 hok hl with ⟨out, h1, h4, h5⟩ | h
  · exact .inl ⟨out, h1, h4, fun hB hv hI => (again hB hv hll hI hr hf).mono fun e w' h => h5 h⟩
  · exact .inr fun hB hv hI => (again hB hv hll hI hr hf).mono fun e w' hh => h hh
end Go.Proofs.YthfppabceeiajaaGreatDoor.Kf.MReadShareGroupStateSummaryResponse
