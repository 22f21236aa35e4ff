/- CreatePartitionsResponse: its schema; what the thin package's functions over it come to. -/
import Derived.Test.YtoohbljhpfamlaaDoorMsgB
import Derived.Test.YtoohbljhpfamlaaDoorLawA
import Derived.Test.YtoohbljhpfamlaaDoorDfA
import Derived.Handy
import Derived.Test.YtoohbljhpfamlaaDoorTagC
import Derived.Test.YtoohbljhpfamlaaDoorTagG
import Derived.Test.YtoohbljhpfamlaaDoorKbT
namespace Go.Proofs.YtoohbljhpfamlaaDoor.Kf.MCreatePartitionsResponse
set_option linter.unusedVariables false
set_option linter.unusedSimpArgs false
set_option maxRecDepth 100000
open Go Go.RowKit

def r : R := .val .all 1 1 21 (.prim .i32 102) (.arrS .all 2 2 71 40 [.string ⟨#[]⟩, .int .i16 0, .pointer none, .map none] (.two 103 104) none 118 74 77 (.val .all 0 0 9 (.str2 false 108 109 110 111) (.val .all 1 1 29 (.prim .i16 119) (.val .all 2 2 75 (.str3 true 120 121 122 123) (.tags 3 3 55 113 .done)))) (.tags 3 3 55 113 .done))
def a : A := .val .all 1 1 21 (.one (.prim .i32) 71) (.arrS .all 2 2 71 40 [.string ⟨#[]⟩, .int .i16 0, .pointer none, .map none] none (.two false 72 73) 77 (.val .all 0 0 9 (.two (.str true false) (.str false false) 74 75) (.val .all 1 1 29 (.one (.prim .i16) 81) (.val .all 2 2 75 (.two (.str true true) (.str false true) 82 83) (.tags 3 3 55 77 76 78 .done)))) (.tags 3 3 55 77 76 78 .done))
noncomputable def bR : Code := (Tryd.f80.body).getD .skip
noncomputable def bW : Code := (Tryd.f38.body).getD .skip
noncomputable def bD : Code := (Tryd.f37.body).getD .skip
def M0 : Nat := (if ((some 2) : Option Int).isSome then 11 else 10) + r.k
def M1 : Nat := Nat.max ((if ((some 2) : Option Int).isSome then 7 else 6) + a.k) 7
theorem mwa : (fun ver => a.m ver (flexOf (some 2) ver)) = MwM r (some 2) := by
  funext ver
  unfold MwM
  generalize flexOf (some 2) ver = flex
  cases flex <;> rfl
theorem codeR : Tryd.f80.body = some (gRead gn 73 38 79 29 M0 none (some 2) r bR) := by kernel_rfl
theorem codeW : Tryd.f38.body = some (gWrite hn 73 29 M1 (some 2) a bW) := by kernel_rfl
theorem codeD : Tryd.f37.body = some (gRF 80 38 22 4 bD) := by kernel_rfl
theorem sz21 : (Tryd.prog.info? 21).map (·.size) = some 1 := by kernel_rfl
theorem fa73_1 : FieldAt Tryd.prog 73 1 1 21 1 := fieldAt_of Tryd.underlying73 rfl rfl rfl sz21 (by decide)
theorem sz71 : (Tryd.prog.info? 71).map (·.size) = some 1 := by kernel_rfl
theorem fa73_2 : FieldAt Tryd.prog 73 2 2 71 1 := fieldAt_of Tryd.underlying73 rfl rfl rfl sz71 (by decide)
theorem sl71 : Sl Tryd.prog 71 4 40 [.string ⟨#[]⟩, .int .i16 0, .pointer none, .map none] := sl_of Tryd.underlying71 (by kernel_rfl) sz71 (by decide) rfl
theorem sz9 : (Tryd.prog.info? 9).map (·.size) = some 1 := by kernel_rfl
theorem fa77_0 : FieldAt Tryd.prog 77 0 0 9 1 := fieldAt_of Tryd.underlying77 rfl rfl rfl sz9 (by decide)
theorem sz29 : (Tryd.prog.info? 29).map (·.size) = some 1 := by kernel_rfl
theorem fa77_1 : FieldAt Tryd.prog 77 1 1 29 1 := fieldAt_of Tryd.underlying77 rfl rfl rfl sz29 (by decide)
theorem sz75 : (Tryd.prog.info? 75).map (·.size) = some 1 := by kernel_rfl
theorem fa77_2 : FieldAt Tryd.prog 77 2 2 75 1 := fieldAt_of Tryd.underlying77 rfl rfl rfl sz75 (by decide)
theorem sz55 : (Tryd.prog.info? 55).map (·.size) = some 1 := by kernel_rfl
theorem fa77_3 : FieldAt Tryd.prog 77 3 3 55 1 := fieldAt_of Tryd.underlying77 rfl rfl rfl sz55 (by decide)
theorem fa73_3 : FieldAt Tryd.prog 73 3 3 55 1 := fieldAt_of Tryd.underlying73 rfl rfl rfl sz55 (by decide)
theorem one21 : One Tryd.prog 21 := one_of Tryd.underlying21 rfl sz21
theorem one9 : One Tryd.prog 9 := one_of Tryd.underlying9 rfl sz9
theorem one29 : One Tryd.prog 29 := one_of Tryd.underlying29 rfl sz29
theorem one75 : One Tryd.prog 75 := one_of Tryd.underlying75 rfl sz75
theorem fa73_0 : FieldAt Tryd.prog 73 0 0 29 1 := fieldAt_of Tryd.underlying73 rfl rfl rfl sz29 (by decide)
theorem okR : r.ok Tryd.prog true 73 1 4 := ⟨by decide, NumC.rd (by decide) rd_int32, fun flex => fa73_1, ⟨by decide, ⟨rfl, rd_calen, rd_alen⟩, fa73_2, sl71, by decide, (def_skip Tryd.func118 rfl rfl rfl), nils_ok rfl, ⟨by decide, ⟨rfl, rd_cstring, rd_string⟩, fun flex => fa77_0, ⟨by decide, NumC.rd (by decide) rd_int16, fun flex => fa77_1, ⟨by decide, ⟨rfl, rd_cnstring, rd_nstring⟩, fun flex => fa77_2, ⟨by decide, rfl, rd_tags, fa77_3, done_ok (by decide)⟩⟩⟩⟩, ⟨by decide, rfl, rd_tags, fa73_3, done_ok (by decide)⟩⟩⟩
theorem okW : a.ok Tryd.prog 5 true true 73 := ⟨app_i32C, fun flex => ⟨fa73_1, (.inl ⟨one21, rfl, fun _ _ => rfl⟩)⟩, ⟨rfl, ⟨rfl, len_compact, len_plain⟩, fa73_2, sl71, ⟨⟨rfl, app_cstrC, app_strC⟩, fun flex => by cases flex <;> exact ⟨fa77_0, (.inl ⟨one9, rfl, fun _ _ => rfl⟩)⟩, ⟨app_i16C, fun flex => ⟨fa77_1, (.inl ⟨one29, rfl, fun _ _ => rfl⟩)⟩, ⟨⟨rfl, app_cnstrC, app_nstrC⟩, fun flex => by cases flex <;> exact ⟨fa77_2, (.inl ⟨one75, rfl, fun _ _ => rfl⟩)⟩, ⟨rfl, fa77_3, tags_len, app_uvarint, tags_each, trivial⟩⟩⟩⟩, ⟨rfl, fa73_3, tags_len, app_uvarint, tags_each, trivial⟩⟩⟩
theorem msgR : MsgR Tryd.prog gn 73 38 79 29 M0 Tryd.f80.ntmps 4 4 none (some 2) r EI :=
  ⟨rd_ok, rd_completeE, und_i32, rdrT, one_i16, fa73_0, (def_skip Tryd.func79 rfl rfl rfl), fun F h => (by cases h), okR, by decide, by decide, by decide, rfl, by decide⟩
theorem msgW : MsgW Tryd.prog hn true 73 29 M1 Tryd.f38.ntmps (some 2) a := ⟨und_int, und_u32, one_i16, fa73_0, okW, rfl, by decide, by decide⟩
theorem plain_of {F : Nat} {fn : Func} (hf : Tryd.prog.funcs[F]? = some fn) (hb : fn.body.isNone = false) (hn : (fn.name == "runtime.NumGoroutine") = false) : Plain Tryd.prog F := ⟨fn, hf, hb, hn⟩
theorem agc : AgC Tryd.prog 5 22 35 37 38 1 EI none (some 2) r (MwM r (some 2)) vlM 4 :=
  mwa ▸ AgC.mk' (sl := 22) (bo := 4) msgR msgW Tryd.func80 bR codeR Tryd.results80 rfl (plain_of Tryd.func80 rfl rfl) Tryd.func37 bD codeD Tryd.results37 Tryd.ntmps37 (plain_of Tryd.func37 rfl rfl)
    Tryd.func38 bW codeW Tryd.results38 rfl (plain_of Tryd.func38 rfl rfl) Tryd.underlying22 info_u8 Tryd.underlying35 (errI_keep (L := 1 + 1) (Nat.lt_succ_self _)) (fun w h => h.2) vlM
    (fun w D b lo hi ver x bs bs0 ver0 hv hc hH => by have e : a.m ver (flexOf (some 2) ver) = MwM r (some 2) ver := congrFun mwa ver; rw [e]; exact hH)
noncomputable def bP : Code := (Tryd.f34.body).getD .skip
noncomputable def bS : Code := (Tryd.f36.body).getD .skip
noncomputable def bV : Code := (Tryd.f35.body).getD .skip
noncomputable def bX : Code := (Tryd.f15.body).getD .skip
theorem codeP : Tryd.f34.body = some (gNP 79 73 38 bP) := by kernel_rfl
theorem codeS : Tryd.f36.body = some (gSV 73 29 bS) := by kernel_rfl
theorem codeV : Tryd.f35.body = some (gK (.int .i16 0) (.int .i16 3) bV) := by kernel_rfl
theorem codeX : Tryd.f15.body = some (gMx 34 35 38 29 3 bX) := by kernel_rfl
theorem alc : Alc Tryd.prog 73 #[.int .i16 0, .int .i32 0, .slice none 0 0, .map none] := fun o a w h => by
  obtain ⟨d, op, t, p, af, g⟩ := o
  simp only at h
  subst h
  kernel_rfl
theorem new_calls (w : World) : Calls Tryd.prog 34 #[] w fun e w' => e = .returned (.pointer (some ⟨w.heap.size, 0, none⟩)) ∧ Only (fun _ => False) w w' ∧ Blk w' w.heap.size 4 ∧ ∀ q ∈ r.nils, w'.cell? ⟨w.heap.size, q, none⟩ = some (.slice none 0 0) :=
  (NP_calls (ks := 0 :: r.nils) Tryd.func34 bP codeP Tryd.results34 Tryd.ntmps34 alc rfl (def_skip Tryd.func79 rfl rfl rfl)).mono fun e w' h => ⟨h.1, h.2.1, h.2.2.1, fun q hq => (h.2.2.2 q (List.mem_cons_of_mem _ hq)).trans (nilsZ rfl q hq)⟩
theorem set_calls (w : World) (b : Nat) (n : Int) (hb : Blk w b 4) : Calls Tryd.prog 36 #[.pointer (some ⟨b, 0, none⟩), .int .i16 n] w fun e w' => e = .returned (.tuple #[]) ∧ Only (· = b) w w' ∧ Upd b 0 1 w w' ∧ w'.cell? ⟨b, 0, none⟩ = some (.int .i16 n) :=
  SV_calls Tryd.func36 bS codeS Tryd.results36 Tryd.ntmps36 fa73_0 hb (by decide)
theorem max_calls (w : World) : Calls Tryd.prog 15 #[] w fun e w' => e = .returned (.int .i64 3) ∧ Only (fun _ => False) w w' :=
  Mx_calls Tryd.func15 bX codeX Tryd.results15 Tryd.ntmps15 und_int Tryd.underlying29 (plain_of Tryd.func34 rfl rfl) (plain_of Tryd.func35 rfl rfl) ((new_calls w).mono fun e w' h => ⟨_, h.1, h.2.1⟩) fun v w' => K_calls Tryd.func35 bV codeV Tryd.results35 Tryd.ntmps35
noncomputable def bA : Code := (Tryd.f16.body).getD .skip
theorem codeA : Tryd.f16.body = some (gAgM 34 36 37 38 38 22 35 35 3 29 bA) := by kernel_rfl
/-- What impl.AgainCreatePartitionsResponse comes to. -/
theorem again {w : World} {ver : Int} {vs : Value} {B : Nat} {bs : List UInt8} (hB : B ≤ w.heap.size) (hv : Oc w B vs bs) (hl : bs.length ≤ lim) (hI : EI w) (hr : IntKind.i16.wrap ver = ver) (hf : Fits none (some 2) ver r (MwM r (some 2)) vlM bs) :
    Calls Tryd.prog 16 #[.int .i64 ver, vs] w (AgQ 5 none (some 2) ver r (MwM r (some 2)) vlM w bs) :=
  AgM_calls agc Tryd.func16 bA codeA Tryd.results16 Tryd.ntmps16 (plain_of Tryd.func34 rfl rfl) (plain_of Tryd.func36 rfl rfl) und_int Tryd.underlying29 (by decide) (by decide) new_calls set_calls hB hv hl hI hr hf
theorem ei_up {w w' : World} (h : EI w) (O : Only (fun _ => False) w w') : EI w' := agc.keep w w' h (O.mono fun _ _ h => h.elim)
theorem full {w : World} {vs : Value} {B : Nat} {ver : Int} {bs : List UInt8} (hB : B ≤ w.heap.size) (hv : Oc w B vs bs) (hr : IntKind.i16.wrap ver = ver) (h : Full (r.m ver (flexOf (some 2) ver)).w bs) (hl : bs.length ≤ lim) (hI : EI w) : Calls Tryd.prog 16 #[.int .i64 ver, vs] w (FullP 5 bs w) :=
  have k := fullM h (by unfold lim at hl; unfold lim2; omega)
  (again hB hv hl hI hr k.1).mono fun e w' h => fullP_of (k.2 h)
theorem cut {w : World} {vs : Value} {B : Nat} {ver : Int} {q s : List UInt8} (hB : B ≤ w.heap.size) (hv : Oc w B vs q) (hr : IntKind.i16.wrap ver = ver) (h : Full (r.m ver (flexOf (some 2) ver)).w (q ++ s)) (hs : s ≠ []) (hl : q.length ≤ lim) (hI : EI w) : Calls Tryd.prog 16 #[.int .i64 ver, vs] w (CutP w) :=
  have k := cutM h hs hl
  (again hB hv hl hI hr k.1).mono fun e w' h => k.2 h
theorem any2 {ver : Int} {bs : List UInt8} (hr : IntKind.i16.wrap ver = ver) (hok : (r.m ver (flexOf (some 2) ver)).w.ok = true) (hl : bs.length ≤ 32767) :
    (∃ out, out.length ≤ bs.length ∧ Full (r.m ver (flexOf (some 2) ver)).w out ∧ ∀ {w : World} {vs : Value} {B : Nat}, B ≤ w.heap.size → Oc w B vs bs → EI w → Calls Tryd.prog 16 #[.int .i64 ver, vs] w (FullP 5 out w)) ∨
      ∀ {w : World} {vs : Value} {B : Nat}, B ≤ w.heap.size → Oc w B vs bs → EI w → Calls Tryd.prog 16 #[.int .i64 ver, vs] w (CutP w) := by
  have hf := (anyM hok hl).1
  have hll : bs.length ≤ lim := by unfold lim; omega
  rcases anyM2 hok hl with ⟨out, h1, h4, h5⟩ | h
  · exact .inl ⟨out, h1, h4, fun hB hv hI => (again hB hv hll hI hr hf).mono fun e w' h => h5 h⟩
  · exact .inr fun hB hv hI => (again hB hv hll hI hr hf).mono fun e w' hh => h hh
end Go.Proofs.YtoohbljhpfamlaaDoor.Kf.MCreatePartitionsResponse
