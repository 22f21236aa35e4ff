/- AlterConfigsResponse: its schema; what the thin package's functions over it come to. -/
import Derived.Test.YtffgggfendppiaaGreatDoorMsgB
import Derived.Test.YtffgggfendppiaaGreatDoorLawA
import Derived.Test.YtffgggfendppiaaGreatDoorDfA
import Derived.Handy
import Derived.Test.YtffgggfendppiaaGreatDoorTagC
import Derived.Test.YtffgggfendppiaaGreatDoorTagG
import Derived.Test.YtffgggfendppiaaGreatDoorKbT
namespace Go.Proofs.YtffgggfendppiaaGreatDoor.Kf.MAlterConfigsResponse
set_option linter.unusedVariables false
set_option linter.unusedSimpArgs false
set_option maxRecDepth 100000
open Go Go.RowKit

def r : R := .val .all 1 1 21 (.prim .i32 116) (.arrS .all 2 2 69 48 [.int .i16 0, .pointer none, .int .i8 0, .string ⟨#[]⟩, .map none] (.two 117 118) none 121 86 91 (.val .all 0 0 42 (.prim .i16 122) (.val .all 1 1 87 (.str3 true 123 124 125 126) (.val .all 2 2 89 (.en .i8 (.int .i8 0) 127) (.val .all 3 3 9 (.str2 false 128 129 130 131) (.tags 4 4 72 132 .done))))) (.tags 3 3 72 132 .done))
def a : A := .val .all 1 1 21 (.one (.prim .i32) 81) (.arrS .all 2 2 69 48 [.int .i16 0, .pointer none, .int .i8 0, .string ⟨#[]⟩, .map none] none (.two false 82 83) 91 (.val .all 0 0 42 (.one (.prim .i16) 84) (.val .all 1 1 87 (.two (.str true true) (.str false true) 85 86) (.val .all 2 2 89 (.en (.prim .i8) 87 88) (.val .all 3 3 9 (.two (.str true false) (.str false false) 88 89) (.tags 4 4 72 91 90 92 .done))))) (.tags 3 3 72 91 90 92 .done))
noncomputable def bR : Code := (Tryz.f80.body).getD .skip
noncomputable def bW : Code := (Tryz.f38.body).getD .skip
noncomputable def bD : Code := (Tryz.f37.body).getD .skip
def M0 : Nat := (if ((some 2) : Option Int).isSome then 11 else 10) + r.k
def M1 : Nat := Nat.max ((if ((some 2) : Option Int).isSome then 7 else 6) + a.k) 7
theorem mwa : (fun ver => a.m ver (flexOf (some 2) ver)) = MwM r (some 2) := by
  funext ver
  unfold MwM
  generalize flexOf (some 2) ver = flex
  cases flex <;> rfl
theorem codeR : Tryz.f80.body = some (gRead gn 74 43 71 42 M0 none (some 2) r bR) := by kernel_rfl
theorem codeW : Tryz.f38.body = some (gWrite hn 74 42 M1 (some 2) a bW) := by kernel_rfl
theorem codeD : Tryz.f37.body = some (gRF 80 43 22 4 bD) := by kernel_rfl
theorem sz21 : (Tryz.prog.info? 21).map (·.size) = some 1 := by kernel_rfl
theorem fa74_1 : FieldAt Tryz.prog 74 1 1 21 1 := fieldAt_of Tryz.underlying74 rfl rfl rfl sz21 (by decide)
theorem sz69 : (Tryz.prog.info? 69).map (·.size) = some 1 := by kernel_rfl
theorem fa74_2 : FieldAt Tryz.prog 74 2 2 69 1 := fieldAt_of Tryz.underlying74 rfl rfl rfl sz69 (by decide)
theorem sl69 : Sl Tryz.prog 69 5 48 [.int .i16 0, .pointer none, .int .i8 0, .string ⟨#[]⟩, .map none] := sl_of Tryz.underlying69 (by kernel_rfl) sz69 (by decide) rfl
theorem sz42 : (Tryz.prog.info? 42).map (·.size) = some 1 := by kernel_rfl
theorem fa91_0 : FieldAt Tryz.prog 91 0 0 42 1 := fieldAt_of Tryz.underlying91 rfl rfl rfl sz42 (by decide)
theorem sz87 : (Tryz.prog.info? 87).map (·.size) = some 1 := by kernel_rfl
theorem fa91_1 : FieldAt Tryz.prog 91 1 1 87 1 := fieldAt_of Tryz.underlying91 rfl rfl rfl sz87 (by decide)
theorem sz89 : (Tryz.prog.info? 89).map (·.size) = some 1 := by kernel_rfl
theorem fa91_2 : FieldAt Tryz.prog 91 2 2 89 1 := fieldAt_of Tryz.underlying91 rfl rfl rfl sz89 (by decide)
theorem sz9 : (Tryz.prog.info? 9).map (·.size) = some 1 := by kernel_rfl
theorem fa91_3 : FieldAt Tryz.prog 91 3 3 9 1 := fieldAt_of Tryz.underlying91 rfl rfl rfl sz9 (by decide)
theorem sz72 : (Tryz.prog.info? 72).map (·.size) = some 1 := by kernel_rfl
theorem fa91_4 : FieldAt Tryz.prog 91 4 4 72 1 := fieldAt_of Tryz.underlying91 rfl rfl rfl sz72 (by decide)
theorem fa74_3 : FieldAt Tryz.prog 74 3 3 72 1 := fieldAt_of Tryz.underlying74 rfl rfl rfl sz72 (by decide)
theorem one21 : One Tryz.prog 21 := one_of Tryz.underlying21 rfl sz21
theorem one42 : One Tryz.prog 42 := one_of Tryz.underlying42 rfl sz42
theorem one87 : One Tryz.prog 87 := one_of Tryz.underlying87 rfl sz87
theorem one89 : One Tryz.prog 89 := one_of Tryz.underlying89 rfl sz89
theorem one9 : One Tryz.prog 9 := one_of Tryz.underlying9 rfl sz9
theorem fa74_0 : FieldAt Tryz.prog 74 0 0 42 1 := fieldAt_of Tryz.underlying74 rfl rfl rfl sz42 (by decide)
theorem okR : r.ok Tryz.prog true 74 1 4 := ⟨by decide, NumC.rd (by decide) rd_int32, fun flex => fa74_1, ⟨by decide, ⟨rfl, rd_calen, rd_alen⟩, fa74_2, sl69, by decide, (def_skip Tryz.func121 rfl rfl rfl), nils_ok rfl, ⟨by decide, NumC.rd (by decide) rd_int16, fun flex => fa91_0, ⟨by decide, ⟨rfl, rd_cnstring, rd_nstring⟩, fun flex => fa91_1, ⟨by decide, NumC.rd (by decide) rd_int8, fun flex => fa91_2, ⟨by decide, ⟨rfl, rd_cstring, rd_string⟩, fun flex => fa91_3, ⟨by decide, rfl, rd_tags, fa91_4, done_ok (by decide)⟩⟩⟩⟩⟩, ⟨by decide, rfl, rd_tags, fa74_3, done_ok (by decide)⟩⟩⟩
theorem okW : a.ok Tryz.prog 5 true true 74 := ⟨app_i32C, fun flex => ⟨fa74_1, (.inl ⟨one21, rfl, fun _ _ => rfl⟩)⟩, ⟨rfl, ⟨rfl, len_compact, len_plain⟩, fa74_2, sl69, ⟨app_i16C, fun flex => ⟨fa91_0, (.inl ⟨one42, rfl, fun _ _ => rfl⟩)⟩, ⟨⟨rfl, app_cnstrC, app_nstrC⟩, fun flex => by cases flex <;> exact ⟨fa91_1, (.inl ⟨one87, rfl, fun _ _ => rfl⟩)⟩, ⟨app_i8C, fun flex => ⟨fa91_2, (.inl ⟨one89, rfl, fun _ _ => rfl⟩)⟩, ⟨⟨rfl, app_cstrC, app_strC⟩, fun flex => by cases flex <;> exact ⟨fa91_3, (.inl ⟨one9, rfl, fun _ _ => rfl⟩)⟩, ⟨rfl, fa91_4, tags_len, app_uvarint, tags_each, trivial⟩⟩⟩⟩⟩, ⟨rfl, fa74_3, tags_len, app_uvarint, tags_each, trivial⟩⟩⟩
theorem msgR : MsgR Tryz.prog gn 74 43 71 42 M0 Tryz.f80.ntmps 4 4 none (some 2) r EI :=
  ⟨rd_ok, rd_completeE, und_i32, rdrT, one_i16, fa74_0, (def_skip Tryz.func71 rfl rfl rfl), fun F h => (by cases h), okR, by decide, by decide, by decide, rfl, by decide⟩
theorem msgW : MsgW Tryz.prog hn true 74 42 M1 Tryz.f38.ntmps (some 2) a := ⟨und_int, und_u32, one_i16, fa74_0, okW, rfl, by decide, by decide⟩
theorem plain_of {F : Nat} {fn : Func} (hf : Tryz.prog.funcs[F]? = some fn) (hb : fn.body.isNone = false) (hn : (fn.name == "runtime.NumGoroutine") = false) : Plain Tryz.prog F := ⟨fn, hf, hb, hn⟩
theorem agc : AgC Tryz.prog 5 22 52 37 38 1 EI none (some 2) r (MwM r (some 2)) vlM 4 :=
  mwa ▸ AgC.mk' (sl := 22) (bo := 4) msgR msgW Tryz.func80 bR codeR Tryz.results80 rfl (plain_of Tryz.func80 rfl rfl) Tryz.func37 bD codeD Tryz.results37 Tryz.ntmps37 (plain_of Tryz.func37 rfl rfl)
    Tryz.func38 bW codeW Tryz.results38 rfl (plain_of Tryz.func38 rfl rfl) Tryz.underlying22 info_u8 Tryz.underlying52 (errI_keep (L := 1 + 1) (Nat.lt_succ_self _)) (fun w h => h.2) vlM
    (fun w D b lo hi ver x bs bs0 ver0 hv hc hH => by have e : a.m ver (flexOf (some 2) ver) = MwM r (some 2) ver := congrFun mwa ver; rw [e]; exact hH)
noncomputable def bP : Code := (Tryz.f32.body).getD .skip
noncomputable def bS : Code := (Tryz.f36.body).getD .skip
noncomputable def bV : Code := (Tryz.f33.body).getD .skip
noncomputable def bX : Code := (Tryz.f10.body).getD .skip
theorem codeP : Tryz.f32.body = some (gNP 71 74 43 bP) := by kernel_rfl
theorem codeS : Tryz.f36.body = some (gSV 74 42 bS) := by kernel_rfl
theorem codeV : Tryz.f33.body = some (gK (.int .i16 0) (.int .i16 2) bV) := by kernel_rfl
theorem codeX : Tryz.f10.body = some (gMx 32 33 43 42 3 bX) := by kernel_rfl
theorem alc : Alc Tryz.prog 74 #[.int .i16 0, .int .i32 0, .slice none 0 0, .map none] := fun o a w h => by
  obtain ⟨d, op, t, p, af, g⟩ := o
  simp only at h
  subst h
  kernel_rfl
theorem new_calls (w : World) : Calls Tryz.prog 32 #[] w fun e w' => e = .returned (.pointer (some ⟨w.heap.size, 0, none⟩)) ∧ Only (fun _ => False) w w' ∧ Blk w' w.heap.size 4 ∧ ∀ q ∈ r.nils, w'.cell? ⟨w.heap.size, q.1, none⟩ = some (nilV q.2) :=
  (NP_calls (ks := 0 :: r.nils.map (·.1)) Tryz.func32 bP codeP Tryz.results32 Tryz.ntmps32 alc rfl (def_skip Tryz.func71 rfl rfl rfl)).mono fun e w' h => ⟨h.1, h.2.1, h.2.2.1, fun q hq => (h.2.2.2 q.1 (List.mem_cons_of_mem _ (List.mem_map_of_mem hq))).trans (nilsZ rfl q hq)⟩
theorem set_calls (w : World) (b : Nat) (n : Int) (hb : Blk w b 4) : Calls Tryz.prog 36 #[.pointer (some ⟨b, 0, none⟩), .int .i16 n] w fun e w' => e = .returned (.tuple #[]) ∧ Only (· = b) w w' ∧ Upd b 0 1 w w' ∧ w'.cell? ⟨b, 0, none⟩ = some (.int .i16 n) :=
  SV_calls Tryz.func36 bS codeS Tryz.results36 Tryz.ntmps36 fa74_0 hb (by decide)
theorem max_calls (w : World) : Calls Tryz.prog 10 #[] w fun e w' => e = .returned (.int .i64 2) ∧ Only (fun _ => False) w w' :=
  Mx_calls Tryz.func10 bX codeX Tryz.results10 Tryz.ntmps10 und_int Tryz.underlying42 (plain_of Tryz.func32 rfl rfl) (plain_of Tryz.func33 rfl rfl) ((new_calls w).mono fun e w' h => ⟨_, h.1, h.2.1⟩) fun v w' => K_calls Tryz.func33 bV codeV Tryz.results33 Tryz.ntmps33
noncomputable def bA : Code := (Tryz.f14.body).getD .skip
theorem codeA : Tryz.f14.body = some (gAgM 32 36 37 38 43 22 52 52 3 42 bA) := by kernel_rfl
/-- What impl.AgainAlterConfigsResponse comes to. -/
theorem again {w : World} {ver : Int} {vs : Value} {B : Nat} {bs : List UInt8} (hB : B ≤ w.heap.size) (hv : Oc w B vs bs) (hl : bs.length ≤ lim) (hI : EI w) (hr : IntKind.i16.wrap ver = ver) (hf : Fits none (some 2) ver r (MwM r (some 2)) vlM bs) :
    Calls Tryz.prog 14 #[.int .i64 ver, vs] w (AgQ 5 none (some 2) ver r (MwM r (some 2)) vlM w bs) :=
  AgM_calls agc Tryz.func14 bA codeA Tryz.results14 Tryz.ntmps14 (plain_of Tryz.func32 rfl rfl) (plain_of Tryz.func36 rfl rfl) und_int Tryz.underlying42 (by decide) (by decide) new_calls set_calls hB hv hl hI hr hf
theorem ei_up {w w' : World} (h : EI w) (O : Only (fun _ => False) w w') : EI w' := agc.keep w w' h (O.mono fun _ _ h => h.elim)
theorem full {w : World} {vs : Value} {B : Nat} {ver : Int} {bs : List UInt8} (hB : B ≤ w.heap.size) (hv : Oc w B vs bs) (hr : IntKind.i16.wrap ver = ver) (h : Full (r.m ver (flexOf (some 2) ver)).w bs) (hl : bs.length ≤ lim) (hI : EI w) : Calls Tryz.prog 14 #[.int .i64 ver, vs] w (FullP 5 bs w) :=
  have k := fullM h (by unfold lim at hl; unfold lim2; omega)
  (again hB hv hl hI hr k.1).mono fun e w' h => fullP_of (k.2 h)
theorem cut {w : World} {vs : Value} {B : Nat} {ver : Int} {q s : List UInt8} (hB : B ≤ w.heap.size) (hv : Oc w B vs q) (hr : IntKind.i16.wrap ver = ver) (h : Full (r.m ver (flexOf (some 2) ver)).w (q ++ s)) (hs : s ≠ []) (hl : q.length ≤ lim) (hI : EI w) : Calls Tryz.prog 14 #[.int .i64 ver, vs] w (CutP w) :=
  have k := cutM h hs hl
  (again hB hv hl hI hr k.1).mono fun e w' h => k.2 h
theorem any2 {ver : Int} {bs : List UInt8} (hr : IntKind.i16.wrap ver = ver) (hok : (r.m ver (flexOf (some 2) ver)).w.ok = true) (hl : bs.length ≤ 32767) :
    (∃ out, out.length ≤ bs.length ∧ Full (r.m ver (flexOf (some 2) ver)).w out ∧ ∀ {w : World} {vs : Value} {B : Nat}, B ≤ w.heap.size → Oc w B vs bs → EI w → Calls Tryz.prog 14 #[.int .i64 ver, vs] w (FullP 5 out w)) ∨
      ∀ {w : World} {vs : Value} {B : Nat}, B ≤ w.heap.size → Oc w B vs bs → EI w → Calls Tryz.prog 14 #[.int .i64 ver, vs] w (CutP w) := by
  have hf := (anyM hok hl).1
  have hll : bs.length ≤ lim := by unfold lim; omega
  rcases anyM2 hok hl with ⟨out, h1, h4, h5⟩ | h
  · exact .inl ⟨out, h1, h4, fun hB hv hI => (again hB hv hll hI hr hf).mono fun e w' h => h5 h⟩
  · exact .inr fun hB hv hI => (again hB hv hll hI hr hf).mono fun e w' hh => h hh
end Go.Proofs.YtffgggfendppiaaGreatDoor.Kf.MAlterConfigsResponse
