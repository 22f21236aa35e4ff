/- AlterPartitionResponse: its schema; what the thin package's functions over it come to. -/
import Derived.Test.YthfppabceeiajaaGreatDoorMsgB
import Derived.Test.YthfppabceeiajaaGreatDoorLawA
import Derived.Test.YthfppabceeiajaaGreatDoorDfA
import Derived.Handy
import Derived.Test.YthfppabceeiajaaGreatDoorTagC
import Derived.Test.YthfppabceeiajaaGreatDoorTagG
import Derived.Test.YthfppabceeiajaaGreatDoorKbT
import Derived.Test.YthfppabceeiajaaGreatDoorKbV
namespace Go.Proofs.YthfppabceeiajaaGreatDoor.Kf.MAlterPartitionResponse
set_option linter.unusedVariables false
set_option linter.unusedSimpArgs false
set_option maxRecDepth 100000
open Go Go.RowKit

def r : R := .val .all 1 1 21 (.prim .i32 98) (.val .all 2 2 42 (.prim .i16 99) (.arrS .all 3 3 107 64 [.string ⟨#[]⟩, .int .u8 0, .int .u8 0, .int .u8 0, .int .u8 0, .int .u8 0, .int .u8 0, .int .u8 0, .int .u8 0, .int .u8 0, .int .u8 0, .int .u8 0, .int .u8 0, .int .u8 0, .int .u8 0, .int .u8 0, .int .u8 0, .slice none 0 0, .map none] (.two 91 92) none 118 110 113 (.val (.rng 0 1) 0 0 9 (.str2 false 113 114 115 116) (.val (.ge 2) 1 1 82 (.uid 96 82) (.arrS .all 2 17 111 56 [.int .i32 0, .int .i16 0, .int .i32 0, .int .i32 0, .slice none 0 0, .int .i8 0, .int .i32 0, .map none] (.two 91 92) none 119 114 118 (.val .all 0 0 21 (.prim .i32 98) (.val .all 1 1 42 (.prim .i16 99) (.val .all 2 2 21 (.prim .i32 98) (.val .all 3 3 21 (.prim .i32 98) (.arrV .all 4 4 115 4 [.int .i32 0] (.two 91 92) none 21 (.prim .i32 98) (.val (.ge 1) 5 5 116 (.prim .i8 120) (.val .all 6 6 21 (.prim .i32 98) (.tags 7 7 68 105 .done)))))))) (.tags 3 18 68 105 .done)))) (.tags 4 4 68 105 .done)))
def a : A := .val .all 1 1 21 (.one (.prim .i32) 65) (.val .all 2 2 42 (.one (.prim .i16) 66) (.arrS .all 3 3 107 64 [.string ⟨#[]⟩, .int .u8 0, .int .u8 0, .int .u8 0, .int .u8 0, .int .u8 0, .int .u8 0, .int .u8 0, .int .u8 0, .int .u8 0, .int .u8 0, .int .u8 0, .int .u8 0, .int .u8 0, .int .u8 0, .int .u8 0, .int .u8 0, .slice none 0 0, .map none] none (.two false 62 63) 113 (.val (.rng 0 1) 0 0 9 (.two (.str true false) (.str false false) 75 76) (.val (.ge 2) 1 1 82 (.uid 64 82) (.arrS .all 2 17 111 56 [.int .i32 0, .int .i16 0, .int .i32 0, .int .i32 0, .slice none 0 0, .int .i8 0, .int .i32 0, .map none] none (.two false 62 63) 118 (.val .all 0 0 21 (.one (.prim .i32) 65) (.val .all 1 1 42 (.one (.prim .i16) 66) (.val .all 2 2 21 (.one (.prim .i32) 65) (.val .all 3 3 21 (.one (.prim .i32) 65) (.arrV .all 4 4 115 4 [.int .i32 0] none (.two false 62 63) 21 (.one (.prim .i32) 65) (.val (.ge 1) 5 5 116 (.one (.prim .i8) 80) (.val .all 6 6 21 (.one (.prim .i32) 65) (.tags 7 7 68 71 70 72 .done)))))))) (.tags 3 18 68 71 70 72 .done)))) (.tags 4 4 68 71 70 72 .done)))
noncomputable def bR : Code := (Tryz.f79.body).getD .skip
noncomputable def bW : Code := (Tryz.f43.body).getD .skip
noncomputable def bD : Code := (Tryz.f42.body).getD .skip
def M0 : Nat := (if ((some 0) : Option Int).isSome then 11 else 10) + r.k
def M1 : Nat := Nat.max ((if ((some 0) : Option Int).isSome then 7 else 6) + a.k) 7
theorem mwa : (fun ver => a.m ver (flexOf (some 0) ver)) = MwM r (some 0) := by
  funext ver
  unfold MwM
  generalize flexOf (some 0) ver = flex
  cases flex <;> rfl
theorem codeR : Tryz.f79.body = some (gRead gn 109 57 77 42 M0 none (some 0) r bR) := by kernel_rfl
theorem codeW : Tryz.f43.body = some (gWrite hn 109 42 M1 (some 0) a bW) := by kernel_rfl
theorem codeD : Tryz.f42.body = some (gRF 79 57 22 4 bD) := by kernel_rfl
theorem sz21 : (Tryz.prog.info? 21).map (·.size) = some 1 := by kernel_rfl
theorem fa109_1 : FieldAt Tryz.prog 109 1 1 21 1 := fieldAt_of Tryz.underlying109 rfl rfl rfl sz21 (by decide)
theorem sz42 : (Tryz.prog.info? 42).map (·.size) = some 1 := by kernel_rfl
theorem fa109_2 : FieldAt Tryz.prog 109 2 2 42 1 := fieldAt_of Tryz.underlying109 rfl rfl rfl sz42 (by decide)
theorem sz107 : (Tryz.prog.info? 107).map (·.size) = some 1 := by kernel_rfl
theorem fa109_3 : FieldAt Tryz.prog 109 3 3 107 1 := fieldAt_of Tryz.underlying109 rfl rfl rfl sz107 (by decide)
theorem sl107 : Sl Tryz.prog 107 19 64 [.string ⟨#[]⟩, .int .u8 0, .int .u8 0, .int .u8 0, .int .u8 0, .int .u8 0, .int .u8 0, .int .u8 0, .int .u8 0, .int .u8 0, .int .u8 0, .int .u8 0, .int .u8 0, .int .u8 0, .int .u8 0, .int .u8 0, .int .u8 0, .slice none 0 0, .map none] := sl_of Tryz.underlying107 (by kernel_rfl) sz107 (by decide) rfl
theorem sz9 : (Tryz.prog.info? 9).map (·.size) = some 1 := by kernel_rfl
theorem fa113_0 : FieldAt Tryz.prog 113 0 0 9 1 := fieldAt_of Tryz.underlying113 rfl rfl rfl sz9 (by decide)
theorem sz82 : (Tryz.prog.info? 82).map (·.size) = some 16 := by kernel_rfl
theorem fa113_1 : FieldAt Tryz.prog 113 1 1 82 16 := fieldAt_of Tryz.underlying113 rfl rfl rfl sz82 (by decide)
theorem bx16 : BxT Tryz.prog 82 16 where
  alc := ⟨#[.int .u8 0, .int .u8 0, .int .u8 0, .int .u8 0, .int .u8 0, .int .u8 0, .int .u8 0, .int .u8 0, .int .u8 0, .int .u8 0, .int .u8 0, .int .u8 0, .int .u8 0, .int .u8 0, .int .u8 0, .int .u8 0], rfl, fun o a w h => by
    obtain ⟨d, op, t, p, af, g⟩ := o
    simp only at h
    subst h
    kernel_rfl⟩
  sz := info_of sz82
  desc := ⟨_, Tryz.underlying82, rfl⟩
theorem sz111 : (Tryz.prog.info? 111).map (·.size) = some 1 := by kernel_rfl
theorem fa113_2 : FieldAt Tryz.prog 113 2 17 111 1 := fieldAt_of Tryz.underlying113 rfl rfl rfl sz111 (by decide)
theorem sl111 : Sl Tryz.prog 111 8 56 [.int .i32 0, .int .i16 0, .int .i32 0, .int .i32 0, .slice none 0 0, .int .i8 0, .int .i32 0, .map none] := sl_of Tryz.underlying111 (by kernel_rfl) sz111 (by decide) rfl
theorem fa118_0 : FieldAt Tryz.prog 118 0 0 21 1 := fieldAt_of Tryz.underlying118 rfl rfl rfl sz21 (by decide)
theorem fa118_1 : FieldAt Tryz.prog 118 1 1 42 1 := fieldAt_of Tryz.underlying118 rfl rfl rfl sz42 (by decide)
theorem fa118_2 : FieldAt Tryz.prog 118 2 2 21 1 := fieldAt_of Tryz.underlying118 rfl rfl rfl sz21 (by decide)
theorem fa118_3 : FieldAt Tryz.prog 118 3 3 21 1 := fieldAt_of Tryz.underlying118 rfl rfl rfl sz21 (by decide)
theorem sz115 : (Tryz.prog.info? 115).map (·.size) = some 1 := by kernel_rfl
theorem fa118_4 : FieldAt Tryz.prog 118 4 4 115 1 := fieldAt_of Tryz.underlying118 rfl rfl rfl sz115 (by decide)
theorem sl115 : Sl Tryz.prog 115 1 4 [.int .i32 0] := sl_of Tryz.underlying115 (by kernel_rfl) sz115 (by decide) rfl
theorem sz116 : (Tryz.prog.info? 116).map (·.size) = some 1 := by kernel_rfl
theorem fa118_5 : FieldAt Tryz.prog 118 5 5 116 1 := fieldAt_of Tryz.underlying118 rfl rfl rfl sz116 (by decide)
theorem fa118_6 : FieldAt Tryz.prog 118 6 6 21 1 := fieldAt_of Tryz.underlying118 rfl rfl rfl sz21 (by decide)
theorem sz68 : (Tryz.prog.info? 68).map (·.size) = some 1 := by kernel_rfl
theorem fa118_7 : FieldAt Tryz.prog 118 7 7 68 1 := fieldAt_of Tryz.underlying118 rfl rfl rfl sz68 (by decide)
theorem fa113_3 : FieldAt Tryz.prog 113 3 18 68 1 := fieldAt_of Tryz.underlying113 rfl rfl rfl sz68 (by decide)
theorem fa109_4 : FieldAt Tryz.prog 109 4 4 68 1 := fieldAt_of Tryz.underlying109 rfl rfl rfl sz68 (by decide)
theorem one21 : One Tryz.prog 21 := one_of Tryz.underlying21 rfl sz21
theorem one42 : One Tryz.prog 42 := one_of Tryz.underlying42 rfl sz42
theorem one9 : One Tryz.prog 9 := one_of Tryz.underlying9 rfl sz9
theorem one116 : One Tryz.prog 116 := one_of Tryz.underlying116 rfl sz116
theorem fa109_0 : FieldAt Tryz.prog 109 0 0 42 1 := fieldAt_of Tryz.underlying109 rfl rfl rfl sz42 (by decide)
theorem okR : r.ok Tryz.prog true 109 1 5 := ⟨by decide, NumC.rd (by decide) rd_int32, fun flex => fa109_1, ⟨by decide, NumC.rd (by decide) rd_int16, fun flex => fa109_2, ⟨by decide, ⟨rfl, rd_calen, rd_alen⟩, fa109_3, sl107, by decide, (def_skip Tryz.func118 rfl rfl rfl), nils_ok rfl, ⟨by decide, ⟨rfl, rd_cstring, rd_string⟩, fun flex => fa113_0, ⟨by decide, ⟨rd_uuid, bx16⟩, fun flex => fa113_1, ⟨by decide, ⟨rfl, rd_calen, rd_alen⟩, fa113_2, sl111, by decide, (def_skip Tryz.func119 rfl rfl rfl), nils_ok rfl, ⟨by decide, NumC.rd (by decide) rd_int32, fun flex => fa118_0, ⟨by decide, NumC.rd (by decide) rd_int16, fun flex => fa118_1, ⟨by decide, NumC.rd (by decide) rd_int32, fun flex => fa118_2, ⟨by decide, NumC.rd (by decide) rd_int32, fun flex => fa118_3, ⟨by decide, NumC.rd (by decide) rd_int32, ⟨rfl, rd_calen, rd_alen⟩, fa118_4, sl115, by decide, info_of sz21, fun flex => rfl, ⟨by decide, NumC.rd (by decide) rd_int8, fun flex => fa118_5, ⟨by decide, NumC.rd (by decide) rd_int32, fun flex => fa118_6, ⟨by decide, rfl, rd_tags, fa118_7, done_ok (by decide)⟩⟩⟩⟩⟩⟩⟩⟩, ⟨by decide, rfl, rd_tags, fa113_3, done_ok (by decide)⟩⟩⟩⟩, ⟨by decide, rfl, rd_tags, fa109_4, done_ok (by decide)⟩⟩⟩⟩
theorem okW : a.ok Tryz.prog 5 true true 109 := ⟨app_i32C, fun flex => ⟨fa109_1, (.inl ⟨one21, rfl, fun _ _ => rfl⟩)⟩, ⟨app_i16C, fun flex => ⟨fa109_2, (.inl ⟨one42, rfl, fun _ _ => rfl⟩)⟩, ⟨rfl, ⟨rfl, len_compact, len_plain⟩, fa109_3, sl107, ⟨⟨rfl, app_cstrC, app_strC⟩, fun flex => by cases flex <;> exact ⟨fa113_0, (.inl ⟨one9, rfl, fun _ _ => rfl⟩)⟩, ⟨⟨app_uuidC, bx16⟩, fun flex => ⟨fa113_1, (.inr ⟨⟨⟨_, Tryz.underlying82, rfl⟩, info_of sz82⟩, fun _ => rfl⟩)⟩, ⟨rfl, ⟨rfl, len_compact, len_plain⟩, fa113_2, sl111, ⟨app_i32C, fun flex => ⟨fa118_0, (.inl ⟨one21, rfl, fun _ _ => rfl⟩)⟩, ⟨app_i16C, fun flex => ⟨fa118_1, (.inl ⟨one42, rfl, fun _ _ => rfl⟩)⟩, ⟨app_i32C, fun flex => ⟨fa118_2, (.inl ⟨one21, rfl, fun _ _ => rfl⟩)⟩, ⟨app_i32C, fun flex => ⟨fa118_3, (.inl ⟨one21, rfl, fun _ _ => rfl⟩)⟩, ⟨rfl, ⟨rfl, len_compact, len_plain⟩, fa118_4, sl115, app_i32C, fun flex => ⟨by cases flex <;> rfl, by cases flex <;> exact (.inl ⟨one21, rfl, fun _ _ => rfl⟩)⟩, ⟨app_i8C, fun flex => ⟨fa118_5, (.inl ⟨one116, rfl, fun _ _ => rfl⟩)⟩, ⟨app_i32C, fun flex => ⟨fa118_6, (.inl ⟨one21, rfl, fun _ _ => rfl⟩)⟩, ⟨rfl, fa118_7, tags_len, app_uvarint, tags_each, trivial⟩⟩⟩⟩⟩⟩⟩⟩, ⟨rfl, fa113_3, tags_len, app_uvarint, tags_each, trivial⟩⟩⟩⟩, ⟨rfl, fa109_4, tags_len, app_uvarint, tags_each, trivial⟩⟩⟩⟩
theorem msgR : MsgR Tryz.prog gn 109 57 77 42 M0 Tryz.f79.ntmps 5 5 none (some 0) r EI :=
  ⟨rd_ok, rd_completeE, und_i32, rdrT, one_i16, fa109_0, (def_skip Tryz.func77 rfl rfl rfl), fun F h => (by cases h), okR, by decide, by decide, by decide, rfl, by decide⟩
theorem msgW : MsgW Tryz.prog hn true 109 42 M1 Tryz.f43.ntmps (some 0) a := ⟨und_int, und_u32, one_i16, fa109_0, okW, rfl, by decide, by decide⟩
theorem plain_of {F : Nat} {fn : Func} (hf : Tryz.prog.funcs[F]? = some fn) (hb : fn.body.isNone = false) (hn : (fn.name == "runtime.NumGoroutine") = false) : Plain Tryz.prog F := ⟨fn, hf, hb, hn⟩
theorem agc : AgC Tryz.prog 5 22 52 42 43 0 EI none (some 0) r (MwM r (some 0)) vlM 5 :=
  mwa ▸ AgC.mk' (sl := 22) (bo := 4) msgR msgW Tryz.func79 bR codeR Tryz.results79 rfl (plain_of Tryz.func79 rfl rfl) Tryz.func42 bD codeD Tryz.results42 Tryz.ntmps42 (plain_of Tryz.func42 rfl rfl)
    Tryz.func43 bW codeW Tryz.results43 rfl (plain_of Tryz.func43 rfl rfl) Tryz.underlying22 info_u8 Tryz.underlying52 (errI_keep (L := 0 + 1) (Nat.lt_succ_self _)) (fun w h => h.2) vlM
    (fun w D b lo hi ver x bs bs0 ver0 hv hc hH => by have e : a.m ver (flexOf (some 0) ver) = MwM r (some 0) ver := congrFun mwa ver; rw [e]; exact hH)
noncomputable def bP : Code := (Tryz.f38.body).getD .skip
noncomputable def bS : Code := (Tryz.f41.body).getD .skip
noncomputable def bV : Code := (Tryz.f39.body).getD .skip
noncomputable def bX : Code := (Tryz.f17.body).getD .skip
theorem codeP : Tryz.f38.body = some (gNP 77 109 57 bP) := by kernel_rfl
theorem codeS : Tryz.f41.body = some (gSV 109 42 bS) := by kernel_rfl
theorem codeV : Tryz.f39.body = some (gK (.int .i16 0) (.int .i16 3) bV) := by kernel_rfl
theorem codeX : Tryz.f17.body = some (gMx 38 39 57 42 3 bX) := by kernel_rfl
theorem alc : Alc Tryz.prog 109 #[.int .i16 0, .int .i32 0, .int .i16 0, .slice none 0 0, .map none] := fun o a w h => by
  obtain ⟨d, op, t, p, af, g⟩ := o
  simp only at h
  subst h
  kernel_rfl
theorem new_calls (w : World) : Calls Tryz.prog 38 #[] w fun e w' => e = .returned (.pointer (some ⟨w.heap.size, 0, none⟩)) ∧ Only (fun _ => False) w w' ∧ Blk w' w.heap.size 5 ∧ ∀ q ∈ r.nils, w'.cell? ⟨w.heap.size, q.1, none⟩ = some (nilV q.2) :=
  (NP_calls (ks := 0 :: r.nils.map Prod.fst) Tryz.func38 bP codeP Tryz.results38 Tryz.ntmps38 alc rfl (def_skip Tryz.func77 rfl rfl rfl)).mono fun e w' h => ⟨h.1, h.2.1, h.2.2.1, fun q hq => (h.2.2.2 q.1 (List.mem_cons_of_mem _ (List.mem_map_of_mem hq))).trans (nilsZ rfl q hq)⟩
theorem set_calls (w : World) (b : Nat) (n : Int) (hb : Blk w b 5) : Calls Tryz.prog 41 #[.pointer (some ⟨b, 0, none⟩), .int .i16 n] w fun e w' => e = .returned (.tuple #[]) ∧ Only (· = b) w w' ∧ Upd b 0 1 w w' ∧ w'.cell? ⟨b, 0, none⟩ = some (.int .i16 n) :=
  SV_calls Tryz.func41 bS codeS Tryz.results41 Tryz.ntmps41 fa109_0 hb (by decide)
theorem max_calls (w : World) : Calls Tryz.prog 17 #[] w fun e w' => e = .returned (.int .i64 3) ∧ Only (fun _ => False) w w' :=
  Mx_calls Tryz.func17 bX codeX Tryz.results17 Tryz.ntmps17 und_int Tryz.underlying42 (plain_of Tryz.func38 rfl rfl) (plain_of Tryz.func39 rfl rfl) ((new_calls w).mono fun e w' h => ⟨_, h.1, h.2.1⟩) fun v w' => K_calls Tryz.func39 bV codeV Tryz.results39 Tryz.ntmps39
noncomputable def bA : Code := (Tryz.f19.body).getD .skip
theorem codeA : Tryz.f19.body = some (gAgM 38 41 42 43 57 22 52 52 3 42 bA) := by kernel_rfl
/-- What impl.AgainAlterPartitionResponse comes to. -/
theorem again {w : World} {ver : Int} {vs : Value} {B : Nat} {bs : List UInt8} (hB : B ≤ w.heap.size) (hv : Oc w B vs bs) (hl : bs.length ≤ lim) (hI : EI w) (hr : IntKind.i16.wrap ver = ver) (hf : Fits none (some 0) ver r (MwM r (some 0)) vlM bs) :
    Calls Tryz.prog 19 #[.int .i64 ver, vs] w (AgQ 5 none (some 0) ver r (MwM r (some 0)) vlM w bs) :=
  AgM_calls agc Tryz.func19 bA codeA Tryz.results19 Tryz.ntmps19 (plain_of Tryz.func38 rfl rfl) (plain_of Tryz.func41 rfl rfl) und_int Tryz.underlying42 (by decide) (by decide) new_calls set_calls hB hv hl hI hr hf
theorem ei_up {w w' : World} (h : EI w) (O : Only (fun _ => False) w w') : EI w' := agc.keep w w' h (O.mono fun _ _ h => h.elim)
theorem full {w : World} {vs : Value} {B : Nat} {ver : Int} {bs : List UInt8} (hB : B ≤ w.heap.size) (hv : Oc w B vs bs) (hr : IntKind.i16.wrap ver = ver) (h : Full (r.m ver (flexOf (some 0) ver)).w bs) (hl : bs.length ≤ lim) (hI : EI w) : Calls Tryz.prog 19 #[.int .i64 ver, vs] w (FullP 5 bs w) :=
  have k := fullM h (by unfold lim at hl; unfold lim2; omega)
  (again hB hv hl hI hr k.1).mono fun e w' h => fullP_of (k.2 h)
theorem cut {w : World} {vs : Value} {B : Nat} {ver : Int} {q s : List UInt8} (hB : B ≤ w.heap.size) (hv : Oc w B vs q) (hr : IntKind.i16.wrap ver = ver) (h : Full (r.m ver (flexOf (some 0) ver)).w (q ++ s)) (hs : s ≠ []) (hl : q.length ≤ lim) (hI : EI w) : Calls Tryz.prog 19 #[.int .i64 ver, vs] w (CutP w) :=
  have k := cutM h hs hl
  (again hB hv hl hI hr k.1).mono fun e w' h => k.2 h
theorem any2 {ver : Int} {bs : List UInt8} (hr : IntKind.i16.wrap ver = ver) (hok : (r.m ver (flexOf (some 0) ver)).w.ok = true) (hl : bs.length ≤ 32767) :
    (∃ out, out.length ≤ bs.length ∧ Full (r.m ver (flexOf (some 0) ver)).w out ∧ ∀ {w : World} {vs : Value} {B : Nat}, B ≤ w.heap.size → Oc w B vs bs → EI w → Calls Tryz.prog 19 #[.int .i64 ver, vs] w (FullP 5 out w)) ∨
      ∀ {w : World} {vs : Value} {B : Nat}, B ≤ w.heap.size → Oc w B vs bs → EI w → Calls Tryz.prog 19 #[.int .i64 ver, vs] w (CutP w) := by
  have hf := (anyM hok hl).1
  have hll : bs.length ≤ lim := by unfold lim; omega
  rcases anyM2 hok hl with ⟨out, h1, h4, h5⟩ | h
  · exact .inl ⟨out, h1, h4, fun hB hv hI => (again hB hv hll hI hr hf).mono fun e w' h => h5 h⟩
  · exact .inr fun hB hv hI => (again hB hv hll hI hr hf).mono fun e w' hh => h hh
end Go.Proofs.YthfppabceeiajaaGreatDoor.Kf.MAlterPartitionResponse
