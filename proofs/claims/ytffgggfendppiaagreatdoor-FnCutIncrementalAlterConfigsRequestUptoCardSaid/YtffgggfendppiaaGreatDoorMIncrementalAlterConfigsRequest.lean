/- IncrementalAlterConfigsRequest: its schema; what the thin package's functions over it come to. -/
import Derived.Test.YtffgggfendppiaaGreatDoorMsgB
import Derived.Test.YtffgggfendppiaaGreatDoorLawA
import Derived.Test.YtffgggfendppiaaGreatDoorDfA
import Derived.Handy
import Derived.Test.YtffgggfendppiaaGreatDoorTagC
import Derived.Test.YtffgggfendppiaaGreatDoorTagG
import Derived.Test.YtffgggfendppiaaGreatDoorKbT
namespace Go.Proofs.YtffgggfendppiaaGreatDoor.Kf.MIncrementalAlterConfigsRequest
set_option linter.unusedVariables false
set_option linter.unusedSimpArgs false
set_option maxRecDepth 100000
open Go Go.RowKit

def r : R := .arrS .all 1 1 97 56 [.int .i8 0, .string ⟨#[]⟩, .slice none 0 0, .map none] (.two 117 118) none 138 100 103 (.val .all 0 0 89 (.en .i8 (.int .i8 0) 127) (.val .all 1 1 9 (.str2 false 128 129 130 131) (.arrS .all 2 2 101 40 [.string ⟨#[]⟩, .int .i8 0, .pointer none, .map none] (.two 117 118) none 139 104 107 (.val .all 0 0 9 (.str2 false 128 129 130 131) (.val .all 1 1 105 (.en .i8 (.int .i8 0) 127) (.val .all 2 2 87 (.str3 true 123 124 125 126) (.tags 3 3 72 132 .done)))) (.tags 3 3 72 132 .done)))) (.val .all 2 2 4 (.prim .bool 140) (.tags 3 3 72 132 .done))
def a : A := .arrS .all 1 1 97 56 [.int .i8 0, .string ⟨#[]⟩, .slice none 0 0, .map none] none (.two false 82 83) 103 (.val .all 0 0 89 (.en (.prim .i8) 87 88) (.val .all 1 1 9 (.two (.str true false) (.str false false) 88 89) (.arrS .all 2 2 101 40 [.string ⟨#[]⟩, .int .i8 0, .pointer none, .map none] none (.two false 82 83) 107 (.val .all 0 0 9 (.two (.str true false) (.str false false) 88 89) (.val .all 1 1 105 (.en (.prim .i8) 87 88) (.val .all 2 2 87 (.two (.str true true) (.str false true) 85 86) (.tags 3 3 72 91 90 92 .done)))) (.tags 3 3 72 91 90 92 .done)))) (.val .all 2 2 4 (.one (.prim .bool) 96) (.tags 3 3 72 91 90 92 .done))
noncomputable def bR : Code := (Tryz.f95.body).getD .skip
noncomputable def bW : Code := (Tryz.f44.body).getD .skip
noncomputable def bD : Code := (Tryz.f43.body).getD .skip
def M0 : Nat := (if ((some 1) : Option Int).isSome then 11 else 10) + r.k
def M1 : Nat := Nat.max ((if ((some 1) : Option Int).isSome then 7 else 6) + a.k) 7
theorem mwa : (fun ver => a.m ver (flexOf (some 1) ver)) = MwM r (some 1) := by
  funext ver
  unfold MwM
  generalize flexOf (some 1) ver = flex
  cases flex <;> rfl
theorem codeR : Tryz.f95.body = some (gRead gn 99 55 93 42 M0 none (some 1) r bR) := by kernel_rfl
theorem codeW : Tryz.f44.body = some (gWrite hn 99 42 M1 (some 1) a bW) := by kernel_rfl
theorem codeD : Tryz.f43.body = some (gRF 95 55 22 4 bD) := by kernel_rfl
theorem sz97 : (Tryz.prog.info? 97).map (·.size) = some 1 := by kernel_rfl
theorem fa99_1 : FieldAt Tryz.prog 99 1 1 97 1 := fieldAt_of Tryz.underlying99 rfl rfl rfl sz97 (by decide)
theorem sl97 : Sl Tryz.prog 97 4 56 [.int .i8 0, .string ⟨#[]⟩, .slice none 0 0, .map none] := sl_of Tryz.underlying97 (by kernel_rfl) sz97 (by decide) rfl
theorem sz89 : (Tryz.prog.info? 89).map (·.size) = some 1 := by kernel_rfl
theorem fa103_0 : FieldAt Tryz.prog 103 0 0 89 1 := fieldAt_of Tryz.underlying103 rfl rfl rfl sz89 (by decide)
theorem sz9 : (Tryz.prog.info? 9).map (·.size) = some 1 := by kernel_rfl
theorem fa103_1 : FieldAt Tryz.prog 103 1 1 9 1 := fieldAt_of Tryz.underlying103 rfl rfl rfl sz9 (by decide)
theorem sz101 : (Tryz.prog.info? 101).map (·.size) = some 1 := by kernel_rfl
theorem fa103_2 : FieldAt Tryz.prog 103 2 2 101 1 := fieldAt_of Tryz.underlying103 rfl rfl rfl sz101 (by decide)
theorem sl101 : Sl Tryz.prog 101 4 40 [.string ⟨#[]⟩, .int .i8 0, .pointer none, .map none] := sl_of Tryz.underlying101 (by kernel_rfl) sz101 (by decide) rfl
theorem fa107_0 : FieldAt Tryz.prog 107 0 0 9 1 := fieldAt_of Tryz.underlying107 rfl rfl rfl sz9 (by decide)
theorem sz105 : (Tryz.prog.info? 105).map (·.size) = some 1 := by kernel_rfl
theorem fa107_1 : FieldAt Tryz.prog 107 1 1 105 1 := fieldAt_of Tryz.underlying107 rfl rfl rfl sz105 (by decide)
theorem sz87 : (Tryz.prog.info? 87).map (·.size) = some 1 := by kernel_rfl
theorem fa107_2 : FieldAt Tryz.prog 107 2 2 87 1 := fieldAt_of Tryz.underlying107 rfl rfl rfl sz87 (by decide)
theorem sz72 : (Tryz.prog.info? 72).map (·.size) = some 1 := by kernel_rfl
theorem fa107_3 : FieldAt Tryz.prog 107 3 3 72 1 := fieldAt_of Tryz.underlying107 rfl rfl rfl sz72 (by decide)
theorem fa103_3 : FieldAt Tryz.prog 103 3 3 72 1 := fieldAt_of Tryz.underlying103 rfl rfl rfl sz72 (by decide)
theorem sz4 : (Tryz.prog.info? 4).map (·.size) = some 1 := by kernel_rfl
theorem fa99_2 : FieldAt Tryz.prog 99 2 2 4 1 := fieldAt_of Tryz.underlying99 rfl rfl rfl sz4 (by decide)
theorem fa99_3 : FieldAt Tryz.prog 99 3 3 72 1 := fieldAt_of Tryz.underlying99 rfl rfl rfl sz72 (by decide)
theorem one89 : One Tryz.prog 89 := one_of Tryz.underlying89 rfl sz89
theorem one9 : One Tryz.prog 9 := one_of Tryz.underlying9 rfl sz9
theorem one105 : One Tryz.prog 105 := one_of Tryz.underlying105 rfl sz105
theorem one87 : One Tryz.prog 87 := one_of Tryz.underlying87 rfl sz87
theorem one4 : One Tryz.prog 4 := one_of Tryz.underlying4 rfl sz4
theorem sz42 : (Tryz.prog.info? 42).map (·.size) = some 1 := by kernel_rfl
theorem fa99_0 : FieldAt Tryz.prog 99 0 0 42 1 := fieldAt_of Tryz.underlying99 rfl rfl rfl sz42 (by decide)
theorem okR : r.ok Tryz.prog true 99 1 4 := ⟨by decide, ⟨rfl, rd_calen, rd_alen⟩, fa99_1, sl97, by decide, (def_skip Tryz.func138 rfl rfl rfl), nils_ok rfl, ⟨by decide, NumC.rd (by decide) rd_int8, fun flex => fa103_0, ⟨by decide, ⟨rfl, rd_cstring, rd_string⟩, fun flex => fa103_1, ⟨by decide, ⟨rfl, rd_calen, rd_alen⟩, fa103_2, sl101, by decide, (def_skip Tryz.func139 rfl rfl rfl), nils_ok rfl, ⟨by decide, ⟨rfl, rd_cstring, rd_string⟩, fun flex => fa107_0, ⟨by decide, NumC.rd (by decide) rd_int8, fun flex => fa107_1, ⟨by decide, ⟨rfl, rd_cnstring, rd_nstring⟩, fun flex => fa107_2, ⟨by decide, rfl, rd_tags, fa107_3, done_ok (by decide)⟩⟩⟩⟩, ⟨by decide, rfl, rd_tags, fa103_3, done_ok (by decide)⟩⟩⟩⟩, ⟨by decide, NumC.rd (by decide) rd_bool, fun flex => fa99_2, ⟨by decide, rfl, rd_tags, fa99_3, done_ok (by decide)⟩⟩⟩
theorem okW : a.ok Tryz.prog 5 true true 99 := ⟨rfl, ⟨rfl, len_compact, len_plain⟩, fa99_1, sl97, ⟨app_i8C, fun flex => ⟨fa103_0, (.inl ⟨one89, rfl, fun _ _ => rfl⟩)⟩, ⟨⟨rfl, app_cstrC, app_strC⟩, fun flex => by cases flex <;> exact ⟨fa103_1, (.inl ⟨one9, rfl, fun _ _ => rfl⟩)⟩, ⟨rfl, ⟨rfl, len_compact, len_plain⟩, fa103_2, sl101, ⟨⟨rfl, app_cstrC, app_strC⟩, fun flex => by cases flex <;> exact ⟨fa107_0, (.inl ⟨one9, rfl, fun _ _ => rfl⟩)⟩, ⟨app_i8C, fun flex => ⟨fa107_1, (.inl ⟨one105, rfl, fun _ _ => rfl⟩)⟩, ⟨⟨rfl, app_cnstrC, app_nstrC⟩, fun flex => by cases flex <;> exact ⟨fa107_2, (.inl ⟨one87, rfl, fun _ _ => rfl⟩)⟩, ⟨rfl, fa107_3, tags_len, app_uvarint, tags_each, trivial⟩⟩⟩⟩, ⟨rfl, fa103_3, tags_len, app_uvarint, tags_each, trivial⟩⟩⟩⟩, ⟨app_boolC, fun flex => ⟨fa99_2, (.inl ⟨one4, rfl, fun _ _ => rfl⟩)⟩, ⟨rfl, fa99_3, tags_len, app_uvarint, tags_each, trivial⟩⟩⟩
theorem msgR : MsgR Tryz.prog gn 99 55 93 42 M0 Tryz.f95.ntmps 4 4 none (some 1) r EI :=
  ⟨rd_ok, rd_completeE, und_i32, rdrT, one_i16, fa99_0, (def_skip Tryz.func93 rfl rfl rfl), fun F h => (by cases h), okR, by decide, by decide, by decide, rfl, by decide⟩
theorem msgW : MsgW Tryz.prog hn true 99 42 M1 Tryz.f44.ntmps (some 1) a := ⟨und_int, und_u32, one_i16, fa99_0, okW, rfl, by decide, by decide⟩
theorem plain_of {F : Nat} {fn : Func} (hf : Tryz.prog.funcs[F]? = some fn) (hb : fn.body.isNone = false) (hn : (fn.name == "runtime.NumGoroutine") = false) : Plain Tryz.prog F := ⟨fn, hf, hb, hn⟩
theorem agc : AgC Tryz.prog 5 22 52 43 44 1 EI none (some 1) r (MwM r (some 1)) vlM 4 :=
  mwa ▸ AgC.mk' (sl := 22) (bo := 4) msgR msgW Tryz.func95 bR codeR Tryz.results95 rfl (plain_of Tryz.func95 rfl rfl) Tryz.func43 bD codeD Tryz.results43 Tryz.ntmps43 (plain_of Tryz.func43 rfl rfl)
    Tryz.func44 bW codeW Tryz.results44 rfl (plain_of Tryz.func44 rfl rfl) Tryz.underlying22 info_u8 Tryz.underlying52 (errI_keep (L := 1 + 1) (Nat.lt_succ_self _)) (fun w h => h.2) vlM
    (fun w D b lo hi ver x bs bs0 ver0 hv hc hH => by have e : a.m ver (flexOf (some 1) ver) = MwM r (some 1) ver := congrFun mwa ver; rw [e]; exact hH)
noncomputable def bP : Code := (Tryz.f39.body).getD .skip
noncomputable def bS : Code := (Tryz.f42.body).getD .skip
noncomputable def bV : Code := (Tryz.f40.body).getD .skip
noncomputable def bX : Code := (Tryz.f16.body).getD .skip
theorem codeP : Tryz.f39.body = some (gNP 93 99 55 bP) := by kernel_rfl
theorem codeS : Tryz.f42.body = some (gSV 99 42 bS) := by kernel_rfl
theorem codeV : Tryz.f40.body = some (gK (.int .i16 0) (.int .i16 1) bV) := by kernel_rfl
theorem codeX : Tryz.f16.body = some (gMx 39 40 55 42 3 bX) := by kernel_rfl
theorem alc : Alc Tryz.prog 99 #[.int .i16 0, .slice none 0 0, .bool false, .map none] := fun o a w h => by
  obtain ⟨d, op, t, p, af, g⟩ := o
  simp only at h
  subst h
  kernel_rfl
theorem new_calls (w : World) : Calls Tryz.prog 39 #[] w fun e w' => e = .returned (.pointer (some ⟨w.heap.size, 0, none⟩)) ∧ Only (fun _ => False) w w' ∧ Blk w' w.heap.size 4 ∧ ∀ q ∈ r.nils, w'.cell? ⟨w.heap.size, q.1, none⟩ = some (nilV q.2) :=
  (NP_calls (ks := 0 :: r.nils.map (·.1)) Tryz.func39 bP codeP Tryz.results39 Tryz.ntmps39 alc rfl (def_skip Tryz.func93 rfl rfl rfl)).mono fun e w' h => ⟨h.1, h.2.1, h.2.2.1, fun q hq => (h.2.2.2 q.1 (List.mem_cons_of_mem _ (List.mem_map_of_mem hq))).trans (nilsZ rfl q hq)⟩
theorem set_calls (w : World) (b : Nat) (n : Int) (hb : Blk w b 4) : Calls Tryz.prog 42 #[.pointer (some ⟨b, 0, none⟩), .int .i16 n] w fun e w' => e = .returned (.tuple #[]) ∧ Only (· = b) w w' ∧ Upd b 0 1 w w' ∧ w'.cell? ⟨b, 0, none⟩ = some (.int .i16 n) :=
  SV_calls Tryz.func42 bS codeS Tryz.results42 Tryz.ntmps42 fa99_0 hb (by decide)
theorem max_calls (w : World) : Calls Tryz.prog 16 #[] w fun e w' => e = .returned (.int .i64 1) ∧ Only (fun _ => False) w w' :=
  Mx_calls Tryz.func16 bX codeX Tryz.results16 Tryz.ntmps16 und_int Tryz.underlying42 (plain_of Tryz.func39 rfl rfl) (plain_of Tryz.func40 rfl rfl) ((new_calls w).mono fun e w' h => ⟨_, h.1, h.2.1⟩) fun v w' => K_calls Tryz.func40 bV codeV Tryz.results40 Tryz.ntmps40
noncomputable def bA : Code := (Tryz.f18.body).getD .skip
theorem codeA : Tryz.f18.body = some (gAgM 39 42 43 44 55 22 52 52 3 42 bA) := by kernel_rfl
/-- What impl.AgainIncrementalAlterConfigsRequest comes to. -/
theorem again {w : World} {ver : Int} {vs : Value} {B : Nat} {bs : List UInt8} (hB : B ≤ w.heap.size) (hv : Oc w B vs bs) (hl : bs.length ≤ lim) (hI : EI w) (hr : IntKind.i16.wrap ver = ver) (hf : Fits none (some 1) ver r (MwM r (some 1)) vlM bs) :
    Calls Tryz.prog 18 #[.int .i64 ver, vs] w (AgQ 5 none (some 1) ver r (MwM r (some 1)) vlM w bs) :=
  AgM_calls agc Tryz.func18 bA codeA Tryz.results18 Tryz.ntmps18 (plain_of Tryz.func39 rfl rfl) (plain_of Tryz.func42 rfl rfl) und_int Tryz.underlying42 (by decide) (by decide) new_calls set_calls hB hv hl hI hr hf
theorem ei_up {w w' : World} (h : EI w) (O : Only (fun _ => False) w w') : EI w' := agc.keep w w' h (O.mono fun _ _ h => h.elim)
theorem full {w : World} {vs : Value} {B : Nat} {ver : Int} {bs : List UInt8} (hB : B ≤ w.heap.size) (hv : Oc w B vs bs) (hr : IntKind.i16.wrap ver = ver) (h : Full (r.m ver (flexOf (some 1) ver)).w bs) (hl : bs.length ≤ lim) (hI : EI w) : Calls Tryz.prog 18 #[.int .i64 ver, vs] w (FullP 5 bs w) :=
  have k := fullM h (by unfold lim at hl; unfold lim2; omega)
  (again hB hv hl hI hr k.1).mono fun e w' h => fullP_of (k.2 h)
theorem cut {w : World} {vs : Value} {B : Nat} {ver : Int} {q s : List UInt8} (hB : B ≤ w.heap.size) (hv : Oc w B vs q) (hr : IntKind.i16.wrap ver = ver) (h : Full (r.m ver (flexOf (some 1) ver)).w (q ++ s)) (hs : s ≠ []) (hl : q.length ≤ lim) (hI : EI w) : Calls Tryz.prog 18 #[.int .i64 ver, vs] w (CutP w) :=
  have k := cutM h hs hl
  (again hB hv hl hI hr k.1).mono fun e w' h => k.2 h
theorem any2 {ver : Int} {bs : List UInt8} (hr : IntKind.i16.wrap ver = ver) (hok : (r.m ver (flexOf (some 1) ver)).w.ok = true) (hl : bs.length ≤ 32767) :
    (∃ out, out.length ≤ bs.length ∧ Full (r.m ver (flexOf (some 1) ver)).w out ∧ ∀ {w : World} {vs : Value} {B : Nat}, B ≤ w.heap.size → Oc w B vs bs → EI w → Calls Tryz.prog 18 #[.int .i64 ver, vs] w (FullP 5 out w)) ∨
      ∀ {w : World} {vs : Value} {B : Nat}, B ≤ w.heap.size → Oc w B vs bs → EI w → Calls Tryz.prog 18 #[.int .i64 ver, vs] w (CutP w) := by
  have hf := (anyM hok hl).1
  have hll : bs.length ≤ lim := by unfold lim; omega
  rcases anyM2 hok hl with ⟨out, h1, h4, h5⟩ | h
  · exact .inl ⟨out, h1, h4, fun hB hv hI => (again hB hv hll hI hr hf).mono fun e w' h => h5 h⟩
  · exact .inr fun hB hv hI => (again hB hv hll hI hr hf).mono fun e w' hh => h hh
end Go.Proofs.YtffgggfendppiaaGreatDoor.Kf.MIncrementalAlterConfigsRequest
