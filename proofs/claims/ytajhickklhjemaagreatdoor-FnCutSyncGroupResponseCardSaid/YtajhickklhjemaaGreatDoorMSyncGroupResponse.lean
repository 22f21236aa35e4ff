/- SyncGroupResponse: its schema; what the thin package's functions over it come to. -/
import Derived.Test.YtajhickklhjemaaGreatDoorMsgB
import Derived.Test.YtajhickklhjemaaGreatDoorLawA
import Derived.Test.YtajhickklhjemaaGreatDoorDfA
import Derived.Handy
import Derived.Test.YtajhickklhjemaaGreatDoorTagC
import Derived.Test.YtajhickklhjemaaGreatDoorTagG
import Derived.Test.YtajhickklhjemaaGreatDoorKbT
namespace Go.Proofs.YtajhickklhjemaaGreatDoor.Kf.MSyncGroupResponse
set_option linter.unusedVariables false
set_option linter.unusedSimpArgs false
set_option maxRecDepth 100000
open Go Go.RowKit

def r : R := .val (.ge 1) 1 1 21 (.prim .i32 178) (.val .all 2 2 42 (.prim .i16 192) (.val (.ge 5) 3 3 114 (.str3 true 187 188 189 190) (.val (.ge 5) 4 4 114 (.str3 true 187 188 189 190) (.val .all 5 5 22 (.byt2 false 205 206) (.tags 6 6 81 177 .done)))))
def a : A := .val (.ge 1) 1 1 21 (.one (.prim .i32) 127) (.val .all 2 2 42 (.one (.prim .i16) 139) (.val (.ge 5) 3 3 114 (.two (.str true true) (.str false true) 132 133) (.val (.ge 5) 4 4 114 (.two (.str true true) (.str false true) 132 133) (.val .all 5 5 22 (.two (.byt true false) (.byt false false) 152 153) (.tags 6 6 81 125 124 126 .done)))))
noncomputable def bR : Code := (Tryz.f151.body).getD .skip
noncomputable def bW : Code := (Tryz.f84.body).getD .skip
noncomputable def bD : Code := (Tryz.f83.body).getD .skip
def M0 : Nat := (if ((some 4) : Option Int).isSome then 11 else 10) + r.k
def M1 : Nat := Nat.max ((if ((some 4) : Option Int).isSome then 7 else 6) + a.k) 7
theorem mwa : (fun ver => a.m ver (flexOf (some 4) ver)) = MwM r (some 4) := by
  funext ver
  unfold MwM
  generalize flexOf (some 4) ver = flex
  cases flex <;> rfl
theorem codeR : Tryz.f151.body = some (gRead gn 157 63 150 42 M0 none (some 4) r bR) := by kernel_rfl
theorem codeW : Tryz.f84.body = some (gWrite hn 157 42 M1 (some 4) a bW) := by kernel_rfl
theorem codeD : Tryz.f83.body = some (gRF 151 63 22 4 bD) := by kernel_rfl
theorem sz21 : (Tryz.prog.info? 21).map (·.size) = some 1 := by kernel_rfl
theorem fa157_1 : FieldAt Tryz.prog 157 1 1 21 1 := fieldAt_of Tryz.underlying157 rfl rfl rfl sz21 (by decide)
theorem sz42 : (Tryz.prog.info? 42).map (·.size) = some 1 := by kernel_rfl
theorem fa157_2 : FieldAt Tryz.prog 157 2 2 42 1 := fieldAt_of Tryz.underlying157 rfl rfl rfl sz42 (by decide)
theorem sz114 : (Tryz.prog.info? 114).map (·.size) = some 1 := by kernel_rfl
theorem fa157_3 : FieldAt Tryz.prog 157 3 3 114 1 := fieldAt_of Tryz.underlying157 rfl rfl rfl sz114 (by decide)
theorem fa157_4 : FieldAt Tryz.prog 157 4 4 114 1 := fieldAt_of Tryz.underlying157 rfl rfl rfl sz114 (by decide)
theorem sz22 : (Tryz.prog.info? 22).map (·.size) = some 1 := by kernel_rfl
theorem fa157_5 : FieldAt Tryz.prog 157 5 5 22 1 := fieldAt_of Tryz.underlying157 rfl rfl rfl sz22 (by decide)
theorem sz81 : (Tryz.prog.info? 81).map (·.size) = some 1 := by kernel_rfl
theorem fa157_6 : FieldAt Tryz.prog 157 6 6 81 1 := fieldAt_of Tryz.underlying157 rfl rfl rfl sz81 (by decide)
theorem one21 : One Tryz.prog 21 := one_of Tryz.underlying21 rfl sz21
theorem one42 : One Tryz.prog 42 := one_of Tryz.underlying42 rfl sz42
theorem one114 : One Tryz.prog 114 := one_of Tryz.underlying114 rfl sz114
theorem one22 : One Tryz.prog 22 := one_of Tryz.underlying22 rfl sz22
theorem fa157_0 : FieldAt Tryz.prog 157 0 0 42 1 := fieldAt_of Tryz.underlying157 rfl rfl rfl sz42 (by decide)
theorem okR : r.ok Tryz.prog true 157 1 7 := ⟨by decide, NumC.rd (by decide) rd_int32, fun flex => fa157_1, ⟨by decide, NumC.rd (by decide) rd_int16, fun flex => fa157_2, ⟨by decide, ⟨rfl, rd_cnstring, rd_nstring⟩, fun flex => fa157_3, ⟨by decide, ⟨rfl, rd_cnstring, rd_nstring⟩, fun flex => fa157_4, ⟨by decide, ⟨rfl, rd_cbytes, rd_bytes⟩, fun flex => fa157_5, ⟨by decide, rfl, rd_tags, fa157_6, done_ok (by decide)⟩⟩⟩⟩⟩⟩
theorem okW : a.ok Tryz.prog 5 true true 157 := ⟨app_i32C, fun flex => ⟨fa157_1, (.inl ⟨one21, rfl, fun _ _ => rfl⟩)⟩, ⟨app_i16C, fun flex => ⟨fa157_2, (.inl ⟨one42, rfl, fun _ _ => rfl⟩)⟩, ⟨⟨rfl, app_cnstrC, app_nstrC⟩, fun flex => by cases flex <;> exact ⟨fa157_3, (.inl ⟨one114, rfl, fun _ _ => rfl⟩)⟩, ⟨⟨rfl, app_cnstrC, app_nstrC⟩, fun flex => by cases flex <;> exact ⟨fa157_4, (.inl ⟨one114, rfl, fun _ _ => rfl⟩)⟩, ⟨⟨rfl, app_cbytC, app_bytC⟩, fun flex => by cases flex <;> exact ⟨fa157_5, (.inl ⟨one22, rfl, fun _ _ => rfl⟩)⟩, ⟨rfl, fa157_6, tags_len, app_uvarint, tags_each, trivial⟩⟩⟩⟩⟩⟩
theorem msgR : MsgR Tryz.prog gn 157 63 150 42 M0 Tryz.f151.ntmps 7 7 none (some 4) r EI :=
  ⟨rd_ok, rd_completeE, und_i32, rdrT, one_i16, fa157_0, (def_skip Tryz.func150 rfl rfl rfl), fun F h => (by cases h), okR, by decide, by decide, by decide, rfl, by decide⟩
theorem msgW : MsgW Tryz.prog hn true 157 42 M1 Tryz.f84.ntmps (some 4) a := ⟨und_int, und_u32, one_i16, fa157_0, okW, rfl, by decide, by decide⟩
theorem plain_of {F : Nat} {fn : Func} (hf : Tryz.prog.funcs[F]? = some fn) (hb : fn.body.isNone = false) (hn : (fn.name == "runtime.NumGoroutine") = false) : Plain Tryz.prog F := ⟨fn, hf, hb, hn⟩
theorem agc : AgC Tryz.prog 5 22 52 83 84 0 EI none (some 4) r (MwM r (some 4)) vlM 7 :=
  mwa ▸ AgC.mk' (sl := 22) (bo := 4) msgR msgW Tryz.func151 bR codeR Tryz.results151 rfl (plain_of Tryz.func151 rfl rfl) Tryz.func83 bD codeD Tryz.results83 Tryz.ntmps83 (plain_of Tryz.func83 rfl rfl)
    Tryz.func84 bW codeW Tryz.results84 rfl (plain_of Tryz.func84 rfl rfl) Tryz.underlying22 info_u8 Tryz.underlying52 (errI_keep (L := 0 + 1) (Nat.lt_succ_self _)) (fun w h => h.2) vlM
    (fun w D b lo hi ver x bs bs0 ver0 hv hc hH => by have e : a.m ver (flexOf (some 4) ver) = MwM r (some 4) ver := congrFun mwa ver; rw [e]; exact hH)
noncomputable def bP : Code := (Tryz.f80.body).getD .skip
noncomputable def bS : Code := (Tryz.f82.body).getD .skip
noncomputable def bV : Code := (Tryz.f81.body).getD .skip
noncomputable def bX : Code := (Tryz.f32.body).getD .skip
theorem codeP : Tryz.f80.body = some (gNP 150 157 63 bP) := by kernel_rfl
theorem codeS : Tryz.f82.body = some (gSV 157 42 bS) := by kernel_rfl
theorem codeV : Tryz.f81.body = some (gK (.int .i16 0) (.int .i16 5) bV) := by kernel_rfl
theorem codeX : Tryz.f32.body = some (gMx 80 81 63 42 3 bX) := by kernel_rfl
theorem alc : Alc Tryz.prog 157 #[.int .i16 0, .int .i32 0, .int .i16 0, .pointer none, .pointer none, .slice none 0 0, .map none] := fun o a w h => by
  obtain ⟨d, op, t, p, af, g⟩ := o
  simp only at h
  subst h
  kernel_rfl
theorem new_calls (w : World) : Calls Tryz.prog 80 #[] w fun e w' => e = .returned (.pointer (some ⟨w.heap.size, 0, none⟩)) ∧ Only (fun _ => False) w w' ∧ Blk w' w.heap.size 7 ∧ ∀ q ∈ r.nils, w'.cell? ⟨w.heap.size, q, none⟩ = some (.slice none 0 0) :=
  (NP_calls (ks := 0 :: r.nils) Tryz.func80 bP codeP Tryz.results80 Tryz.ntmps80 alc rfl (def_skip Tryz.func150 rfl rfl rfl)).mono fun e w' h => ⟨h.1, h.2.1, h.2.2.1, fun q hq => (h.2.2.2 q (List.mem_cons_of_mem _ hq)).trans (nilsZ rfl q hq)⟩
theorem set_calls (w : World) (b : Nat) (n : Int) (hb : Blk w b 7) : Calls Tryz.prog 82 #[.pointer (some ⟨b, 0, none⟩), .int .i16 n] w fun e w' => e = .returned (.tuple #[]) ∧ Only (· = b) w w' ∧ Upd b 0 1 w w' ∧ w'.cell? ⟨b, 0, none⟩ = some (.int .i16 n) :=
  SV_calls Tryz.func82 bS codeS Tryz.results82 Tryz.ntmps82 fa157_0 hb (by decide)
theorem max_calls (w : World) : Calls Tryz.prog 32 #[] w fun e w' => e = .returned (.int .i64 5) ∧ Only (fun _ => False) w w' :=
  Mx_calls Tryz.func32 bX codeX Tryz.results32 Tryz.ntmps32 und_int Tryz.underlying42 (plain_of Tryz.func80 rfl rfl) (plain_of Tryz.func81 rfl rfl) ((new_calls w).mono fun e w' h => ⟨_, h.1, h.2.1⟩) fun v w' => K_calls Tryz.func81 bV codeV Tryz.results81 Tryz.ntmps81
noncomputable def bA : Code := (Tryz.f34.body).getD .skip
theorem codeA : Tryz.f34.body = some (gAgM 80 82 83 84 63 22 52 52 3 42 bA) := by kernel_rfl
/-- What impl.AgainSyncGroupResponse comes to. -/
theorem again {w : World} {ver : Int} {vs : Value} {B : Nat} {bs : List UInt8} (hB : B ≤ w.heap.size) (hv : Oc w B vs bs) (hl : bs.length ≤ lim) (hI : EI w) (hr : IntKind.i16.wrap ver = ver) (hf : Fits none (some 4) ver r (MwM r (some 4)) vlM bs) :
    Calls Tryz.prog 34 #[.int .i64 ver, vs] w (AgQ 5 none (some 4) ver r (MwM r (some 4)) vlM w bs) :=
  AgM_calls agc Tryz.func34 bA codeA Tryz.results34 Tryz.ntmps34 (plain_of Tryz.func80 rfl rfl) (plain_of Tryz.func82 rfl rfl) und_int Tryz.underlying42 (by decide) (by decide) new_calls set_calls hB hv hl hI hr hf
theorem ei_up {w w' : World} (h : EI w) (O : Only (fun _ => False) w w') : EI w' := agc.keep w w' h (O.mono fun _ _ h => h.elim)
theorem full {w : World} {vs : Value} {B : Nat} {ver : Int} {bs : List UInt8} (hB : B ≤ w.heap.size) (hv : Oc w B vs bs) (hr : IntKind.i16.wrap ver = ver) (h : Full (r.m ver (flexOf (some 4) ver)).w bs) (hl : bs.length ≤ lim) (hI : EI w) : Calls Tryz.prog 34 #[.int .i64 ver, vs] w (FullP 5 bs w) :=
  have k := fullM h (by unfold lim at hl; unfold lim2; omega)
  (again hB hv hl hI hr k.1).mono fun e w' h => fullP_of (k.2 h)
theorem cut {w : World} {vs : Value} {B : Nat} {ver : Int} {q s : List UInt8} (hB : B ≤ w.heap.size) (hv : Oc w B vs q) (hr : IntKind.i16.wrap ver = ver) (h : Full (r.m ver (flexOf (some 4) ver)).w (q ++ s)) (hs : s ≠ []) (hl : q.length ≤ lim) (hI : EI w) : Calls Tryz.prog 34 #[.int .i64 ver, vs] w (CutP w) :=
  have k := cutM h hs hl
  (again hB hv hl hI hr k.1).mono fun e w' h => k.2 h
theorem any2 {ver : Int} {bs : List UInt8} (hr : IntKind.i16.wrap ver = ver) (hok : (r.m ver (flexOf (some 4) ver)).w.ok = true) (hl : bs.length ≤ 32767) :
    (∃ out, out.length ≤ bs.length ∧ Full (r.m ver (flexOf (some 4) ver)).w out ∧ ∀ {w : World} {vs : Value} {B : Nat}, B ≤ w.heap.size → Oc w B vs bs → EI w → Calls Tryz.prog 34 #[.int .i64 ver, vs] w (FullP 5 out w)) ∨
      ∀ {w : World} {vs : Value} {B : Nat}, B ≤ w.heap.size → Oc w B vs bs → EI w → Calls Tryz.prog 34 #[.int .i64 ver, vs] w (CutP w) := by
  have hf := (anyM hok hl).1
  have hll : bs.length ≤ lim := by unfold lim; omega
  rcases anyM2 hok hl with ⟨out, h1, h4, h5⟩ | h
  · exact .inl ⟨out, h1, h4, fun hB hv hI => (again hB hv hll hI hr hf).mono fun e w' h => h5 h⟩
  · exact .inr fun hB hv hI => (again hB hv hll hI hr hf).mono fun e w' hh => h hh
end Go.Proofs.YtajhickklhjemaaGreatDoor.Kf.MSyncGroupResponse
