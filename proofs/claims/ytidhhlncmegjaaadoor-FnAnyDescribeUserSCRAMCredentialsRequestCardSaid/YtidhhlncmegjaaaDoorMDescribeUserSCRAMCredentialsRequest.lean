/- DescribeUserSCRAMCredentialsRequest: its schema; what the thin package's functions over it come to. -/
import Derived.Test.YtidhhlncmegjaaaDoorMsgB
import Derived.Test.YtidhhlncmegjaaaDoorLawA
import Derived.Test.YtidhhlncmegjaaaDoorDfA
import Derived.Handy
import Derived.Test.YtidhhlncmegjaaaDoorTagC
import Derived.Test.YtidhhlncmegjaaaDoorTagG
import Derived.Test.YtidhhlncmegjaaaDoorKbT
namespace Go.Proofs.YtidhhlncmegjaaaDoor.Kf.MDescribeUserSCRAMCredentialsRequest
set_option linter.unusedVariables false
set_option linter.unusedSimpArgs false
set_option maxRecDepth 100000
open Go Go.RowKit

def r : R := .arrS .all 1 1 124 24 [.string ⟨#[]⟩, .map none] (.two 160 131) (some 0) 164 128 130 (.val .all 0 0 9 (.str2 false 161 134 162 135) (.tags 1 1 97 150 .done)) (.tags 2 2 97 150 .done)
def a : A := .arrS .all 1 1 124 24 [.string ⟨#[]⟩, .map none] (some 0) (.two true 128 129) 130 (.val .all 0 0 9 (.two (.str true false) (.str false false) 124 90) (.tags 1 1 97 106 105 107 .done)) (.tags 2 2 97 106 105 107 .done)
noncomputable def bR : Code := (Tryd.f127.body).getD .skip
noncomputable def bW : Code := (Tryd.f84.body).getD .skip
noncomputable def bD : Code := (Tryd.f83.body).getD .skip
def M0 : Nat := (if ((some 0) : Option Int).isSome then 11 else 10) + r.k
def M1 : Nat := Nat.max ((if ((some 0) : Option Int).isSome then 7 else 6) + a.k) 7
theorem mwa : (fun ver => a.m ver (flexOf (some 0) ver)) = MwM r (some 0) := by
  funext ver
  unfold MwM
  generalize flexOf (some 0) ver = flex
  cases flex <;> rfl
theorem codeR : Tryd.f127.body = some (gRead gn 126 76 126 48 M0 none (some 0) r bR) := by kernel_rfl
theorem codeW : Tryd.f84.body = some (gWrite hn 126 48 M1 (some 0) a bW) := by kernel_rfl
theorem codeD : Tryd.f83.body = some (gRF 127 76 22 4 bD) := by kernel_rfl
theorem sz124 : (Tryd.prog.info? 124).map (·.size) = some 1 := by kernel_rfl
theorem fa126_1 : FieldAt Tryd.prog 126 1 1 124 1 := fieldAt_of Tryd.underlying126 rfl rfl rfl sz124 (by decide)
theorem sl124 : Sl Tryd.prog 124 2 24 [.string ⟨#[]⟩, .map none] := sl_of Tryd.underlying124 (by kernel_rfl) sz124 (by decide) rfl
theorem sz9 : (Tryd.prog.info? 9).map (·.size) = some 1 := by kernel_rfl
theorem fa130_0 : FieldAt Tryd.prog 130 0 0 9 1 := fieldAt_of Tryd.underlying130 rfl rfl rfl sz9 (by decide)
theorem sz97 : (Tryd.prog.info? 97).map (·.size) = some 1 := by kernel_rfl
theorem fa130_1 : FieldAt Tryd.prog 130 1 1 97 1 := fieldAt_of Tryd.underlying130 rfl rfl rfl sz97 (by decide)
theorem fa126_2 : FieldAt Tryd.prog 126 2 2 97 1 := fieldAt_of Tryd.underlying126 rfl rfl rfl sz97 (by decide)
theorem one9 : One Tryd.prog 9 := one_of Tryd.underlying9 rfl sz9
theorem sz48 : (Tryd.prog.info? 48).map (·.size) = some 1 := by kernel_rfl
theorem fa126_0 : FieldAt Tryd.prog 126 0 0 48 1 := fieldAt_of Tryd.underlying126 rfl rfl rfl sz48 (by decide)
theorem okR : r.ok Tryd.prog true 126 1 3 := ⟨by decide, ⟨rfl, rd_calen, rd_alen⟩, fa126_1, sl124, by decide, (def_skip Tryd.func164 rfl rfl rfl), nils_ok rfl, ⟨by decide, ⟨rfl, rd_cstring, rd_string⟩, fun flex => fa130_0, ⟨by decide, rfl, rd_tags, fa130_1, done_ok (by decide)⟩⟩, ⟨by decide, rfl, rd_tags, fa126_2, done_ok (by decide)⟩⟩
theorem okW : a.ok Tryd.prog 5 true true 126 := ⟨rfl, ⟨rfl, len_cnull, len_null⟩, fa126_1, sl124, ⟨⟨rfl, app_cstrC, app_strC⟩, fun flex => by cases flex <;> exact ⟨fa130_0, (.inl ⟨one9, rfl, fun _ _ => rfl⟩)⟩, ⟨rfl, fa130_1, tags_len, app_uvarint, tags_each, trivial⟩⟩, ⟨rfl, fa126_2, tags_len, app_uvarint, tags_each, trivial⟩⟩
theorem msgR : MsgR Tryd.prog gn 126 76 126 48 M0 Tryd.f127.ntmps 3 3 none (some 0) r EI :=
  ⟨rd_ok, rd_completeE, und_i32, rdrT, one_i16, fa126_0, (def_skip Tryd.func126 rfl rfl rfl), fun F h => (by cases h), okR, by decide, by decide, by decide, rfl, by decide⟩
theorem msgW : MsgW Tryd.prog hn true 126 48 M1 Tryd.f84.ntmps (some 0) a := ⟨und_int, und_u32, one_i16, fa126_0, okW, rfl, by decide, by decide⟩
theorem plain_of {F : Nat} {fn : Func} (hf : Tryd.prog.funcs[F]? = some fn) (hb : fn.body.isNone = false) (hn : (fn.name == "runtime.NumGoroutine") = false) : Plain Tryd.prog F := ⟨fn, hf, hb, hn⟩
theorem agc : AgC Tryd.prog 5 22 56 83 84 1 EI none (some 0) r (MwM r (some 0)) vlM 3 :=
  mwa ▸ AgC.mk' (sl := 22) (bo := 4) msgR msgW Tryd.func127 bR codeR Tryd.results127 rfl (plain_of Tryd.func127 rfl rfl) Tryd.func83 bD codeD Tryd.results83 Tryd.ntmps83 (plain_of Tryd.func83 rfl rfl)
    Tryd.func84 bW codeW Tryd.results84 rfl (plain_of Tryd.func84 rfl rfl) Tryd.underlying22 info_u8 Tryd.underlying56 (errI_keep (L := 1 + 1) (Nat.lt_succ_self _)) (fun w h => h.2) vlM
    (fun w D b lo hi ver x bs bs0 ver0 hv hc hH => by have e : a.m ver (flexOf (some 0) ver) = MwM r (some 0) ver := congrFun mwa ver; rw [e]; exact hH)
noncomputable def bP : Code := (Tryd.f80.body).getD .skip
noncomputable def bS : Code := (Tryd.f82.body).getD .skip
noncomputable def bV : Code := (Tryd.f81.body).getD .skip
noncomputable def bX : Code := (Tryd.f36.body).getD .skip
theorem codeP : Tryd.f80.body = some (gNP 126 126 76 bP) := by kernel_rfl
theorem codeS : Tryd.f82.body = some (gSV 126 48 bS) := by kernel_rfl
theorem codeV : Tryd.f81.body = some (gK (.int .i16 0) (.int .i16 0) bV) := by kernel_rfl
theorem codeX : Tryd.f36.body = some (gMx 80 81 76 48 3 bX) := by kernel_rfl
theorem alc : Alc Tryd.prog 126 #[.int .i16 0, .slice none 0 0, .map none] := fun o a w h => by
  obtain ⟨d, op, t, p, af, g⟩ := o
  simp only at h
  subst h
  kernel_rfl
theorem new_calls (w : World) : Calls Tryd.prog 80 #[] w fun e w' => e = .returned (.pointer (some ⟨w.heap.size, 0, none⟩)) ∧ Only (fun _ => False) w w' ∧ Blk w' w.heap.size 3 ∧ ∀ q ∈ r.nils, w'.cell? ⟨w.heap.size, q, none⟩ = some (.slice none 0 0) :=
  (NP_calls (ks := 0 :: r.nils) Tryd.func80 bP codeP Tryd.results80 Tryd.ntmps80 alc rfl (def_skip Tryd.func126 rfl rfl rfl)).mono fun e w' h => ⟨h.1, h.2.1, h.2.2.1, fun q hq => (h.2.2.2 q (List.mem_cons_of_mem _ hq)).trans (nilsZ rfl q hq)⟩
theorem set_calls (w : World) (b : Nat) (n : Int) (hb : Blk w b 3) : Calls Tryd.prog 82 #[.pointer (some ⟨b, 0, none⟩), .int .i16 n] w fun e w' => e = .returned (.tuple #[]) ∧ Only (· = b) w w' ∧ Upd b 0 1 w w' ∧ w'.cell? ⟨b, 0, none⟩ = some (.int .i16 n) :=
  SV_calls Tryd.func82 bS codeS Tryd.results82 Tryd.ntmps82 fa126_0 hb (by decide)
theorem max_calls (w : World) : Calls Tryd.prog 36 #[] w fun e w' => e = .returned (.int .i64 0) ∧ Only (fun _ => False) w w' :=
  Mx_calls Tryd.func36 bX codeX Tryd.results36 Tryd.ntmps36 und_int Tryd.underlying48 (plain_of Tryd.func80 rfl rfl) (plain_of Tryd.func81 rfl rfl) ((new_calls w).mono fun e w' h => ⟨_, h.1, h.2.1⟩) fun v w' => K_calls Tryd.func81 bV codeV Tryd.results81 Tryd.ntmps81
noncomputable def bA : Code := (Tryd.f37.body).getD .skip
theorem codeA : Tryd.f37.body = some (gAgM 80 82 83 84 76 22 56 56 3 48 bA) := by kernel_rfl
/-- What impl.AgainDescribeUserSCRAMCredentialsRequest comes to. -/
theorem again {w : World} {ver : Int} {vs : Value} {B : Nat} {bs : List UInt8} (hB : B ≤ w.heap.size) (hv : Oc w B vs bs) (hl : bs.length ≤ lim) (hI : EI w) (hr : IntKind.i16.wrap ver = ver) (hf : Fits none (some 0) ver r (MwM r (some 0)) vlM bs) :
    Calls Tryd.prog 37 #[.int .i64 ver, vs] w (AgQ 5 none (some 0) ver r (MwM r (some 0)) vlM w bs) :=
  AgM_calls agc Tryd.func37 bA codeA Tryd.results37 Tryd.ntmps37 (plain_of Tryd.func80 rfl rfl) (plain_of Tryd.func82 rfl rfl) und_int Tryd.underlying48 (by decide) (by decide) new_calls set_calls hB hv hl hI hr hf
theorem ei_up {w w' : World} (h : EI w) (O : Only (fun _ => False) w w') : EI w' := agc.keep w w' h (O.mono fun _ _ h => h.elim)
theorem full {w : World} {vs : Value} {B : Nat} {ver : Int} {bs : List UInt8} (hB : B ≤ w.heap.size) (hv : Oc w B vs bs) (hr : IntKind.i16.wrap ver = ver) (h : Full (r.m ver (flexOf (some 0) ver)).w bs) (hl : bs.length ≤ lim) (hI : EI w) : Calls Tryd.prog 37 #[.int .i64 ver, vs] w (FullP 5 bs w) :=
  have k := fullM h (by unfold lim at hl; unfold lim2; omega)
  (again hB hv hl hI hr k.1).mono fun e w' h => fullP_of (k.2 h)
theorem cut {w : World} {vs : Value} {B : Nat} {ver : Int} {q s : List UInt8} (hB : B ≤ w.heap.size) (hv : Oc w B vs q) (hr : IntKind.i16.wrap ver = ver) (h : Full (r.m ver (flexOf (some 0) ver)).w (q ++ s)) (hs : s ≠ []) (hl : q.length ≤ lim) (hI : EI w) : Calls Tryd.prog 37 #[.int .i64 ver, vs] w (CutP w) :=
  have k := cutM h hs hl
  (again hB hv hl hI hr k.1).mono fun e w' h => k.2 h
theorem any2 {ver : Int} {bs : List UInt8} (hr : IntKind.i16.wrap ver = ver) (hok : (r.m ver (flexOf (some 0) ver)).w.ok = true) (hl : bs.length ≤ 32767) :
    (∃ out, out.length ≤ bs.length ∧ Full (r.m ver (flexOf (some 0) ver)).w out ∧ ∀ {w : World} {vs : Value} {B : Nat}, B ≤ w.heap.size → Oc w B vs bs → EI w → Calls Tryd.prog 37 #[.int .i64 ver, vs] w (FullP 5 out w)) ∨
      ∀ {w : World} {vs : Value} {B : Nat}, B ≤ w.heap.size → Oc w B vs bs → EI w → Calls Tryd.prog 37 #[.int .i64 ver, vs] w (CutP w) := by
  have hf := (anyM hok hl).1
  have hll : bs.length ≤ lim := by unfold lim; omega
  rcases anyM2 hok hl with ⟨out, h1, h4, h5⟩ | h
  · exact .inl ⟨out, h1, h4, fun hB hv hI => (again hB hv hll hI hr hf).mono fun e w' h => h5 h⟩
  · exact .inr fun hB hv hI => (again hB hv hll hI hr hf).mono fun e w' hh => h hh
end Go.Proofs.YtidhhlncmegjaaaDoor.Kf.MDescribeUserSCRAMCredentialsRequest
