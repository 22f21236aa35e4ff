/- LeaderAndISRResponse: its schema; what the thin package's functions over it come to. -/
import Derived.Test.YthfppabceeiajaaGreatDoorMsgB
import Derived.Test.YthfppabceeiajaaGreatDoorLawA
import Derived.Test.YthfppabceeiajaaGreatDoorDfA
import Derived.Handy
import Derived.Test.YthfppabceeiajaaGreatDoorTagC
import Derived.Test.YthfppabceeiajaaGreatDoorTagG
import Derived.Test.YthfppabceeiajaaGreatDoorKbT
import Derived.Test.YthfppabceeiajaaGreatDoorKbV
namespace Go.Proofs.YthfppabceeiajaaGreatDoor.Kf.MLeaderAndISRResponse
set_option linter.unusedVariables false
set_option linter.unusedSimpArgs false
set_option maxRecDepth 100000
open Go Go.RowKit

def r : R := .val .all 1 1 42 (.prim .i16 99) (.arrS (.rng 0 4) 2 2 96 32 [.string ⟨#[]⟩, .int .i32 0, .int .i16 0, .map none] (.two 91 92) none 112 100 102 (.val (.rng 0 4) 0 0 9 (.str2 false 113 114 115 116) (.val .all 1 1 21 (.prim .i32 98) (.val .all 2 2 42 (.prim .i16 99) (.tags 3 3 68 105 .done)))) (.arrS (.ge 5) 3 3 97 48 [.int .u8 0, .int .u8 0, .int .u8 0, .int .u8 0, .int .u8 0, .int .u8 0, .int .u8 0, .int .u8 0, .int .u8 0, .int .u8 0, .int .u8 0, .int .u8 0, .int .u8 0, .int .u8 0, .int .u8 0, .int .u8 0, .slice none 0 0, .map none] (.two 91 92) none 117 104 106 (.val .all 0 0 82 (.uid 96 82) (.arrS .all 1 16 96 32 [.string ⟨#[]⟩, .int .i32 0, .int .i16 0, .map none] (.two 91 92) none 112 100 102 (.val (.rng 0 4) 0 0 9 (.str2 false 113 114 115 116) (.val .all 1 1 21 (.prim .i32 98) (.val .all 2 2 42 (.prim .i16 99) (.tags 3 3 68 105 .done)))) (.tags 2 17 68 105 .done))) (.tags 4 4 68 105 .done)))
def a : A := .val .all 1 1 42 (.one (.prim .i16) 66) (.arrS (.rng 0 4) 2 2 96 32 [.string ⟨#[]⟩, .int .i32 0, .int .i16 0, .map none] none (.two false 62 63) 102 (.val (.rng 0 4) 0 0 9 (.two (.str true false) (.str false false) 75 76) (.val .all 1 1 21 (.one (.prim .i32) 65) (.val .all 2 2 42 (.one (.prim .i16) 66) (.tags 3 3 68 71 70 72 .done)))) (.arrS (.ge 5) 3 3 97 48 [.int .u8 0, .int .u8 0, .int .u8 0, .int .u8 0, .int .u8 0, .int .u8 0, .int .u8 0, .int .u8 0, .int .u8 0, .int .u8 0, .int .u8 0, .int .u8 0, .int .u8 0, .int .u8 0, .int .u8 0, .int .u8 0, .slice none 0 0, .map none] none (.two false 62 63) 106 (.val .all 0 0 82 (.uid 64 82) (.arrS .all 1 16 96 32 [.string ⟨#[]⟩, .int .i32 0, .int .i16 0, .map none] none (.two false 62 63) 102 (.val (.rng 0 4) 0 0 9 (.two (.str true false) (.str false false) 75 76) (.val .all 1 1 21 (.one (.prim .i32) 65) (.val .all 2 2 42 (.one (.prim .i16) 66) (.tags 3 3 68 71 70 72 .done)))) (.tags 2 17 68 71 70 72 .done))) (.tags 4 4 68 71 70 72 .done)))
noncomputable def bR : Code := (Tryz.f74.body).getD .skip
noncomputable def bW : Code := (Tryz.f37.body).getD .skip
noncomputable def bD : Code := (Tryz.f36.body).getD .skip
def M0 : Nat := (if ((some 4) : Option Int).isSome then 11 else 10) + r.k
def M1 : Nat := Nat.max ((if ((some 4) : Option Int).isSome then 7 else 6) + a.k) 7
theorem mwa : (fun ver => a.m ver (flexOf (some 4) ver)) = MwM r (some 4) := by
  funext ver
  unfold MwM
  generalize flexOf (some 4) ver = flex
  cases flex <;> rfl
theorem codeR : Tryz.f74.body = some (gRead gn 99 55 73 42 M0 none (some 4) r bR) := by kernel_rfl
theorem codeW : Tryz.f37.body = some (gWrite hn 99 42 M1 (some 4) a bW) := by kernel_rfl
theorem codeD : Tryz.f36.body = some (gRF 74 55 22 4 bD) := by kernel_rfl
theorem sz42 : (Tryz.prog.info? 42).map (·.size) = some 1 := by kernel_rfl
theorem fa99_1 : FieldAt Tryz.prog 99 1 1 42 1 := fieldAt_of Tryz.underlying99 rfl rfl rfl sz42 (by decide)
theorem sz96 : (Tryz.prog.info? 96).map (·.size) = some 1 := by kernel_rfl
theorem fa99_2 : FieldAt Tryz.prog 99 2 2 96 1 := fieldAt_of Tryz.underlying99 rfl rfl rfl sz96 (by decide)
theorem sl96 : Sl Tryz.prog 96 4 32 [.string ⟨#[]⟩, .int .i32 0, .int .i16 0, .map none] := sl_of Tryz.underlying96 (by kernel_rfl) sz96 (by decide) rfl
theorem sz9 : (Tryz.prog.info? 9).map (·.size) = some 1 := by kernel_rfl
theorem fa102_0 : FieldAt Tryz.prog 102 0 0 9 1 := fieldAt_of Tryz.underlying102 rfl rfl rfl sz9 (by decide)
theorem sz21 : (Tryz.prog.info? 21).map (·.size) = some 1 := by kernel_rfl
theorem fa102_1 : FieldAt Tryz.prog 102 1 1 21 1 := fieldAt_of Tryz.underlying102 rfl rfl rfl sz21 (by decide)
theorem fa102_2 : FieldAt Tryz.prog 102 2 2 42 1 := fieldAt_of Tryz.underlying102 rfl rfl rfl sz42 (by decide)
theorem sz68 : (Tryz.prog.info? 68).map (·.size) = some 1 := by kernel_rfl
theorem fa102_3 : FieldAt Tryz.prog 102 3 3 68 1 := fieldAt_of Tryz.underlying102 rfl rfl rfl sz68 (by decide)
theorem sz97 : (Tryz.prog.info? 97).map (·.size) = some 1 := by kernel_rfl
theorem fa99_3 : FieldAt Tryz.prog 99 3 3 97 1 := fieldAt_of Tryz.underlying99 rfl rfl rfl sz97 (by decide)
theorem sl97 : Sl Tryz.prog 97 18 48 [.int .u8 0, .int .u8 0, .int .u8 0, .int .u8 0, .int .u8 0, .int .u8 0, .int .u8 0, .int .u8 0, .int .u8 0, .int .u8 0, .int .u8 0, .int .u8 0, .int .u8 0, .int .u8 0, .int .u8 0, .int .u8 0, .slice none 0 0, .map none] := sl_of Tryz.underlying97 (by kernel_rfl) sz97 (by decide) rfl
theorem sz82 : (Tryz.prog.info? 82).map (·.size) = some 16 := by kernel_rfl
theorem fa106_0 : FieldAt Tryz.prog 106 0 0 82 16 := fieldAt_of Tryz.underlying106 rfl rfl rfl sz82 (by decide)
theorem bx16 : BxT Tryz.prog 82 16 where
  alc := ⟨#[.int .u8 0, .int .u8 0, .int .u8 0, .int .u8 0, .int .u8 0, .int .u8 0, .int .u8 0, .int .u8 0, .int .u8 0, .int .u8 0, .int .u8 0, .int .u8 0, .int .u8 0, .int .u8 0, .int .u8 0, .int .u8 0], rfl, fun o a w h => by
    obtain ⟨d, op, t, p, af, g⟩ := o
    simp only at h
    subst h
    kernel_rfl⟩
  sz := info_of sz82
  desc := ⟨_, Tryz.underlying82, rfl⟩
theorem fa106_1 : FieldAt Tryz.prog 106 1 16 96 1 := fieldAt_of Tryz.underlying106 rfl rfl rfl sz96 (by decide)
theorem fa106_2 : FieldAt Tryz.prog 106 2 17 68 1 := fieldAt_of Tryz.underlying106 rfl rfl rfl sz68 (by decide)
theorem fa99_4 : FieldAt Tryz.prog 99 4 4 68 1 := fieldAt_of Tryz.underlying99 rfl rfl rfl sz68 (by decide)
theorem one42 : One Tryz.prog 42 := one_of Tryz.underlying42 rfl sz42
theorem one9 : One Tryz.prog 9 := one_of Tryz.underlying9 rfl sz9
theorem one21 : One Tryz.prog 21 := one_of Tryz.underlying21 rfl sz21
theorem fa99_0 : FieldAt Tryz.prog 99 0 0 42 1 := fieldAt_of Tryz.underlying99 rfl rfl rfl sz42 (by decide)
theorem okR : r.ok Tryz.prog true 99 1 5 := ⟨by decide, NumC.rd (by decide) rd_int16, fun flex => fa99_1, ⟨by decide, ⟨rfl, rd_calen, rd_alen⟩, fa99_2, sl96, by decide, (def_skip Tryz.func112 rfl rfl rfl), nils_ok rfl, ⟨by decide, ⟨rfl, rd_cstring, rd_string⟩, fun flex => fa102_0, ⟨by decide, NumC.rd (by decide) rd_int32, fun flex => fa102_1, ⟨by decide, NumC.rd (by decide) rd_int16, fun flex => fa102_2, ⟨by decide, rfl, rd_tags, fa102_3, done_ok (by decide)⟩⟩⟩⟩, ⟨by decide, ⟨rfl, rd_calen, rd_alen⟩, fa99_3, sl97, by decide, (def_skip Tryz.func117 rfl rfl rfl), nils_ok rfl, ⟨by decide, ⟨rd_uuid, bx16⟩, fun flex => fa106_0, ⟨by decide, ⟨rfl, rd_calen, rd_alen⟩, fa106_1, sl96, by decide, (def_skip Tryz.func112 rfl rfl rfl), nils_ok rfl, ⟨by decide, ⟨rfl, rd_cstring, rd_string⟩, fun flex => fa102_0, ⟨by decide, NumC.rd (by decide) rd_int32, fun flex => fa102_1, ⟨by decide, NumC.rd (by decide) rd_int16, fun flex => fa102_2, ⟨by decide, rfl, rd_tags, fa102_3, done_ok (by decide)⟩⟩⟩⟩, ⟨by decide, rfl, rd_tags, fa106_2, done_ok (by decide)⟩⟩⟩, ⟨by decide, rfl, rd_tags, fa99_4, done_ok (by decide)⟩⟩⟩⟩
theorem okW : a.ok Tryz.prog 5 true true 99 := ⟨app_i16C, fun flex => ⟨fa99_1, (.inl ⟨one42, rfl, fun _ _ => rfl⟩)⟩, ⟨rfl, ⟨rfl, len_compact, len_plain⟩, fa99_2, sl96, ⟨⟨rfl, app_cstrC, app_strC⟩, fun flex => by cases flex <;> exact ⟨fa102_0, (.inl ⟨one9, rfl, fun _ _ => rfl⟩)⟩, ⟨app_i32C, fun flex => ⟨fa102_1, (.inl ⟨one21, rfl, fun _ _ => rfl⟩)⟩, ⟨app_i16C, fun flex => ⟨fa102_2, (.inl ⟨one42, rfl, fun _ _ => rfl⟩)⟩, ⟨rfl, fa102_3, tags_len, app_uvarint, tags_each, trivial⟩⟩⟩⟩, ⟨rfl, ⟨rfl, len_compact, len_plain⟩, fa99_3, sl97, ⟨⟨app_uuidC, bx16⟩, fun flex => ⟨fa106_0, (.inr ⟨⟨⟨_, Tryz.underlying82, rfl⟩, info_of sz82⟩, fun _ => rfl⟩)⟩, ⟨rfl, ⟨rfl, len_compact, len_plain⟩, fa106_1, sl96, ⟨⟨rfl, app_cstrC, app_strC⟩, fun flex => by cases flex <;> exact ⟨fa102_0, (.inl ⟨one9, rfl, fun _ _ => rfl⟩)⟩, ⟨app_i32C, fun flex => ⟨fa102_1, (.inl ⟨one21, rfl, fun _ _ => rfl⟩)⟩, ⟨app_i16C, fun flex => ⟨fa102_2, (.inl ⟨one42, rfl, fun _ _ => rfl⟩)⟩, ⟨rfl, fa102_3, tags_len, app_uvarint, tags_each, trivial⟩⟩⟩⟩, ⟨rfl, fa106_2, tags_len, app_uvarint, tags_each, trivial⟩⟩⟩, ⟨rfl, fa99_4, tags_len, app_uvarint, tags_each, trivial⟩⟩⟩⟩
theorem msgR : MsgR Tryz.prog gn 99 55 73 42 M0 Tryz.f74.ntmps 5 5 none (some 4) r EI :=
  ⟨rd_ok, rd_completeE, und_i32, rdrT, one_i16, fa99_0, (def_skip Tryz.func73 rfl rfl rfl), fun F h => (by cases h), okR, by decide, by decide, by decide, rfl, by decide⟩
theorem msgW : MsgW Tryz.prog hn true 99 42 M1 Tryz.f37.ntmps (some 4) a := ⟨und_int, und_u32, one_i16, fa99_0, okW, rfl, by decide, by decide⟩
theorem plain_of {F : Nat} {fn : Func} (hf : Tryz.prog.funcs[F]? = some fn) (hb : fn.body.isNone = false) (hn : (fn.name == "runtime.NumGoroutine") = false) : Plain Tryz.prog F := ⟨fn, hf, hb, hn⟩
theorem agc : AgC Tryz.prog 5 22 52 36 37 0 EI none (some 4) r (MwM r (some 4)) vlM 5 :=
  mwa ▸ AgC.mk' (sl := 22) (bo := 4) msgR msgW Tryz.func74 bR codeR Tryz.results74 rfl (plain_of Tryz.func74 rfl rfl) Tryz.func36 bD codeD Tryz.results36 Tryz.ntmps36 (plain_of Tryz.func36 rfl rfl)
    Tryz.func37 bW codeW Tryz.results37 rfl (plain_of Tryz.func37 rfl rfl) Tryz.underlying22 info_u8 Tryz.underlying52 (errI_keep (L := 0 + 1) (Nat.lt_succ_self _)) (fun w h => h.2) vlM
    (fun w D b lo hi ver x bs bs0 ver0 hv hc hH => by have e : a.m ver (flexOf (some 4) ver) = MwM r (some 4) ver := congrFun mwa ver; rw [e]; exact hH)
noncomputable def bP : Code := (Tryz.f31.body).getD .skip
noncomputable def bS : Code := (Tryz.f35.body).getD .skip
noncomputable def bV : Code := (Tryz.f32.body).getD .skip
noncomputable def bX : Code := (Tryz.f13.body).getD .skip
theorem codeP : Tryz.f31.body = some (gNP 73 99 55 bP) := by kernel_rfl
theorem codeS : Tryz.f35.body = some (gSV 99 42 bS) := by kernel_rfl
theorem codeV : Tryz.f32.body = some (gK (.int .i16 0) (.int .i16 7) bV) := by kernel_rfl
theorem codeX : Tryz.f13.body = some (gMx 31 32 55 42 3 bX) := by kernel_rfl
theorem alc : Alc Tryz.prog 99 #[.int .i16 0, .int .i16 0, .slice none 0 0, .slice none 0 0, .map none] := fun o a w h => by
  obtain ⟨d, op, t, p, af, g⟩ := o
  simp only at h
  subst h
  kernel_rfl
theorem new_calls (w : World) : Calls Tryz.prog 31 #[] w fun e w' => e = .returned (.pointer (some ⟨w.heap.size, 0, none⟩)) ∧ Only (fun _ => False) w w' ∧ Blk w' w.heap.size 5 ∧ ∀ q ∈ r.nils, w'.cell? ⟨w.heap.size, q.1, none⟩ = some (nilV q.2) :=
  (NP_calls (ks := 0 :: r.nils.map Prod.fst) Tryz.func31 bP codeP Tryz.results31 Tryz.ntmps31 alc rfl (def_skip Tryz.func73 rfl rfl rfl)).mono fun e w' h => ⟨h.1, h.2.1, h.2.2.1, fun q hq => (h.2.2.2 q.1 (List.mem_cons_of_mem _ (List.mem_map_of_mem hq))).trans (nilsZ rfl q hq)⟩
theorem set_calls (w : World) (b : Nat) (n : Int) (hb : Blk w b 5) : Calls Tryz.prog 35 #[.pointer (some ⟨b, 0, none⟩), .int .i16 n] w fun e w' => e = .returned (.tuple #[]) ∧ Only (· = b) w w' ∧ Upd b 0 1 w w' ∧ w'.cell? ⟨b, 0, none⟩ = some (.int .i16 n) :=
  SV_calls Tryz.func35 bS codeS Tryz.results35 Tryz.ntmps35 fa99_0 hb (by decide)
theorem max_calls (w : World) : Calls Tryz.prog 13 #[] w fun e w' => e = .returned (.int .i64 7) ∧ Only (fun _ => False) w w' :=
  Mx_calls Tryz.func13 bX codeX Tryz.results13 Tryz.ntmps13 und_int Tryz.underlying42 (plain_of Tryz.func31 rfl rfl) (plain_of Tryz.func32 rfl rfl) ((new_calls w).mono fun e w' h => ⟨_, h.1, h.2.1⟩) fun v w' => K_calls Tryz.func32 bV codeV Tryz.results32 Tryz.ntmps32
noncomputable def bA : Code := (Tryz.f15.body).getD .skip
theorem codeA : Tryz.f15.body = some (gAgM 31 35 36 37 55 22 52 52 3 42 bA) := by kernel_rfl
/-- What impl.AgainLeaderAndISRResponse comes to. -/
theorem again {w : World} {ver : Int} {vs : Value} {B : Nat} {bs : List UInt8} (hB : B ≤ w.heap.size) (hv : Oc w B vs bs) (hl : bs.length ≤ lim) (hI : EI w) (hr : IntKind.i16.wrap ver = ver) (hf : Fits none (some 4) ver r (MwM r (some 4)) vlM bs) :
    Calls Tryz.prog 15 #[.int .i64 ver, vs] w (AgQ 5 none (some 4) ver r (MwM r (some 4)) vlM w bs) :=
  AgM_calls agc Tryz.func15 bA codeA Tryz.results15 Tryz.ntmps15 (plain_of Tryz.func31 rfl rfl) (plain_of Tryz.func35 rfl rfl) und_int Tryz.underlying42 (by decide) (by decide) new_calls set_calls hB hv hl hI hr hf
theorem ei_up {w w' : World} (h : EI w) (O : Only (fun _ => False) w w') : EI w' := agc.keep w w' h (O.mono fun _ _ h => h.elim)
theorem full {w : World} {vs : Value} {B : Nat} {ver : Int} {bs : List UInt8} (hB : B ≤ w.heap.size) (hv : Oc w B vs bs) (hr : IntKind.i16.wrap ver = ver) (h : Full (r.m ver (flexOf (some 4) ver)).w bs) (hl : bs.length ≤ lim) (hI : EI w) : Calls Tryz.prog 15 #[.int .i64 ver, vs] w (FullP 5 bs w) :=
  have k := fullM h (by unfold lim at hl; unfold lim2; omega)
  (again hB hv hl hI hr k.1).mono fun e w' h => fullP_of (k.2 h)
theorem cut {w : World} {vs : Value} {B : Nat} {ver : Int} {q s : List UInt8} (hB : B ≤ w.heap.size) (hv : Oc w B vs q) (hr : IntKind.i16.wrap ver = ver) (h : Full (r.m ver (flexOf (some 4) ver)).w (q ++ s)) (hs : s ≠ []) (hl : q.length ≤ lim) (hI : EI w) : Calls Tryz.prog 15 #[.int .i64 ver, vs] w (CutP w) :=
  have k := cutM h hs hl
  (again hB hv hl hI hr k.1).mono fun e w' h => k.2 h
theorem any2 {ver : Int} {bs : List UInt8} (hr : IntKind.i16.wrap ver = ver) (hok : (r.m ver (flexOf (some 4) ver)).w.ok = true) (hl : bs.length ≤ 32767) :
    (∃ out, out.length ≤ bs.length ∧ Full (r.m ver (flexOf (some 4) ver)).w out ∧ ∀ {w : World} {vs : Value} {B : Nat}, B ≤ w.heap.size → Oc w B vs bs → EI w → Calls Tryz.prog 15 #[.int .i64 ver, vs] w (FullP 5 out w)) ∨
      ∀ {w : World} {vs : Value} {B : Nat}, B ≤ w.heap.size → Oc w B vs bs → EI w → Calls Tryz.prog 15 #[.int .i64 ver, vs] w (CutP w) := by
  have hf := (anyM hok hl).1
  have hll : bs.length ≤ lim := by unfold lim; omega
  rcases anyM2 hok hl with ⟨out, h1, h4, h5⟩ | h
  · exact .inl ⟨out, h1, h4, fun hB hv hI => (again hB hv hll hI hr hf).mono fun e w' h => h5 h⟩
  · exact .inr fun hB hv hI => (again hB hv hll hI hr hf).mono fun e w' hh => h hh
end Go.Proofs.YthfppabceeiajaaGreatDoor.Kf.MLeaderAndISRResponse
