/- OffsetDeleteRequest: its schema; what the thin package's functions over it come to. -/
import Derived.Test.YtfimokbgggimmaaDoorMsgB
import Derived.Test.YtfimokbgggimmaaDoorLawA
import Derived.Handy
namespace Go.Proofs.YtfimokbgggimmaaDoor.Kf.MOffsetDeleteRequest
set_option linter.unusedVariables false
set_option linter.unusedSimpArgs false
set_option maxRecDepth 100000
open Go Go.RowKit

def r : R := .val .all 1 1 9 (.str1 false 63 64) (.arrS .all 2 2 86 40 [.string ⟨#[]⟩, .slice none 0 0] (.one 77) none 79 98 101 (.val .all 0 0 9 (.str1 false 63 64) (.arrS .all 1 1 99 4 [.int .i32 0] (.one 77) none 80 102 104 (.val .all 0 0 21 (.prim .i32 69) .done) .done)) .done)
def a : A := .val .all 1 1 9 (.one (.str false false) 45) (.arrS .all 2 2 86 40 [.string ⟨#[]⟩, .slice none 0 0] none (.one false 60) 101 (.val .all 0 0 9 (.one (.str false false) 45) (.arrS .all 1 1 99 4 [.int .i32 0] none (.one false 60) 104 (.val .all 0 0 21 (.one (.prim .i32) 61) .done) .done)) .done)
noncomputable def bR : Code := (Tryd.f59.body).getD .skip
noncomputable def bW : Code := (Tryd.f40.body).getD .skip
noncomputable def bD : Code := (Tryd.f39.body).getD .skip
def M0 : Nat := (if (none : Option Int).isSome then 11 else 10) + r.k
def M1 : Nat := Nat.max ((if (none : Option Int).isSome then 7 else 6) + a.k) 7
theorem codeR : Tryd.f59.body = some (gRead gn 88 70 49 39 M0 none none r bR) := by kernel_rfl
theorem codeW : Tryd.f40.body = some (gWrite hn 88 39 M1 none a bW) := by kernel_rfl
theorem codeD : Tryd.f39.body = some (gRF 59 70 22 4 bD) := by kernel_rfl
theorem sz9 : (Tryd.prog.info? 9).map (·.size) = some 1 := by kernel_rfl
theorem fa88_1 : FieldAt Tryd.prog 88 1 1 9 1 := fieldAt_of Tryd.underlying88 rfl rfl rfl sz9 (by decide)
theorem sz86 : (Tryd.prog.info? 86).map (·.size) = some 1 := by kernel_rfl
theorem fa88_2 : FieldAt Tryd.prog 88 2 2 86 1 := fieldAt_of Tryd.underlying88 rfl rfl rfl sz86 (by decide)
theorem sl86 : Sl Tryd.prog 86 2 40 [.string ⟨#[]⟩, .slice none 0 0] := sl_of Tryd.underlying86 (by kernel_rfl) sz86 (by decide) rfl
theorem fa101_0 : FieldAt Tryd.prog 101 0 0 9 1 := fieldAt_of Tryd.underlying101 rfl rfl rfl sz9 (by decide)
theorem sz99 : (Tryd.prog.info? 99).map (·.size) = some 1 := by kernel_rfl
theorem fa101_1 : FieldAt Tryd.prog 101 1 1 99 1 := fieldAt_of Tryd.underlying101 rfl rfl rfl sz99 (by decide)
theorem sl99 : Sl Tryd.prog 99 1 4 [.int .i32 0] := sl_of Tryd.underlying99 (by kernel_rfl) sz99 (by decide) rfl
theorem sz21 : (Tryd.prog.info? 21).map (·.size) = some 1 := by kernel_rfl
theorem fa104_0 : FieldAt Tryd.prog 104 0 0 21 1 := fieldAt_of Tryd.underlying104 rfl rfl rfl sz21 (by decide)
theorem one9 : One Tryd.prog 9 := one_of Tryd.underlying9 rfl sz9
theorem one21 : One Tryd.prog 21 := one_of Tryd.underlying21 rfl sz21
theorem sz39 : (Tryd.prog.info? 39).map (·.size) = some 1 := by kernel_rfl
theorem fa88_0 : FieldAt Tryd.prog 88 0 0 39 1 := fieldAt_of Tryd.underlying88 rfl rfl rfl sz39 (by decide)
theorem okR : r.ok Tryd.prog false 88 1 3 := ⟨by decide, rd_string, fun flex => fa88_1, ⟨by decide, rd_alen, fa88_2, sl86, by decide, (def_skip Tryd.func79 rfl rfl rfl), nils_ok rfl, ⟨by decide, rd_string, fun flex => fa101_0, ⟨by decide, rd_alen, fa101_1, sl99, by decide, (def_skip Tryd.func80 rfl rfl rfl), nils_ok rfl, ⟨by decide, NumC.rd (by decide) rd_int32, fun flex => fa104_0, done_ok (by decide)⟩, done_ok (by decide)⟩⟩, done_ok (by decide)⟩⟩
theorem okW : a.ok Tryd.prog 5 false 88 := ⟨app_strC, fun flex => ⟨fa88_1, (.inl ⟨one9, rfl, fun _ _ => rfl⟩)⟩, ⟨rfl, len_plain, fa88_2, sl86, ⟨app_strC, fun flex => ⟨fa101_0, (.inl ⟨one9, rfl, fun _ _ => rfl⟩)⟩, ⟨rfl, len_plain, fa101_1, sl99, ⟨app_i32C, fun flex => ⟨fa104_0, (.inl ⟨one21, rfl, fun _ _ => rfl⟩)⟩, trivial⟩, trivial⟩⟩, trivial⟩⟩
theorem msgR : MsgR Tryd.prog gn 88 70 49 39 M0 Tryd.f59.ntmps 3 3 none none r EI :=
  ⟨rd_ok, rd_completeE, und_i32, rdrT, one_i16, fa88_0, (def_skip Tryd.func49 rfl rfl rfl), fun F h => (by cases h), okR, by decide, by decide, by decide, rfl, by decide⟩
theorem msgW : MsgW Tryd.prog hn 88 39 M1 Tryd.f40.ntmps none a := ⟨und_int, und_u32, one_i16, fa88_0, okW, rfl, by decide, by decide⟩
theorem plain_of {F : Nat} {fn : Func} (hf : Tryd.prog.funcs[F]? = some fn) (hb : fn.body.isNone = false) (hn : (fn.name == "runtime.NumGoroutine") = false) : Plain Tryd.prog F := ⟨fn, hf, hb, hn⟩
theorem agc : AgC Tryd.prog 5 22 62 39 40 1 EI none none r (MwM r none) vlM 3 :=
  AgC.mk' (sl := 22) (bo := 4) msgR msgW Tryd.func59 bR codeR Tryd.results59 rfl (plain_of Tryd.func59 rfl rfl) Tryd.func39 bD codeD Tryd.results39 Tryd.ntmps39 (plain_of Tryd.func39 rfl rfl)
    Tryd.func40 bW codeW Tryd.results40 rfl (plain_of Tryd.func40 rfl rfl) Tryd.underlying22 info_u8 Tryd.underlying62 (errI_keep (L := 1 + 1) (Nat.lt_succ_self _)) (fun w h => h.2) vlM
    (fun w D b lo hi ver x bs bs0 ver0 hv hc hH => hH)
noncomputable def bP : Code := (Tryd.f34.body).getD .skip
noncomputable def bS : Code := (Tryd.f38.body).getD .skip
noncomputable def bV : Code := (Tryd.f35.body).getD .skip
noncomputable def bX : Code := (Tryd.f19.body).getD .skip
theorem codeP : Tryd.f34.body = some (gNP 49 88 70 bP) := by kernel_rfl
theorem codeS : Tryd.f38.body = some (gSV 88 39 bS) := by kernel_rfl
theorem codeV : Tryd.f35.body = some (gK (.int .i16 0) (.int .i16 0) bV) := by kernel_rfl
theorem codeX : Tryd.f19.body = some (gMx 34 35 70 39 3 bX) := by kernel_rfl
theorem alc : Alc Tryd.prog 88 #[.int .i16 0, .string ⟨#[]⟩, .slice none 0 0] := fun o a w h => by
  obtain ⟨d, op, t, p, af, g⟩ := o
  simp only at h
  subst h
  kernel_rfl
theorem new_calls (w : World) : Calls Tryd.prog 34 #[] w fun e w' => e = .returned (.pointer (some ⟨w.heap.size, 0, none⟩)) ∧ Only (fun _ => False) w w' ∧ Blk w' w.heap.size 3 ∧ ∀ q ∈ r.nils, w'.cell? ⟨w.heap.size, q, none⟩ = some (.slice none 0 0) :=
  (NP_calls (ks := 0 :: r.nils) Tryd.func34 bP codeP Tryd.results34 Tryd.ntmps34 alc rfl (def_skip Tryd.func49 rfl rfl rfl)).mono fun e w' h => ⟨h.1, h.2.1, h.2.2.1, fun q hq => (h.2.2.2 q (List.mem_cons_of_mem _ hq)).trans (nilsZ rfl q hq)⟩
theorem set_calls (w : World) (b : Nat) (n : Int) (hb : Blk w b 3) : Calls Tryd.prog 38 #[.pointer (some ⟨b, 0, none⟩), .int .i16 n] w fun e w' => e = .returned (.tuple #[]) ∧ Only (· = b) w w' ∧ Upd b 0 1 w w' ∧ w'.cell? ⟨b, 0, none⟩ = some (.int .i16 n) :=
  SV_calls Tryd.func38 bS codeS Tryd.results38 Tryd.ntmps38 fa88_0 hb (by decide)
theorem max_calls (w : World) : Calls Tryd.prog 19 #[] w fun e w' => e = .returned (.int .i64 0) ∧ Only (fun _ => False) w w' :=
  Mx_calls Tryd.func19 bX codeX Tryd.results19 Tryd.ntmps19 und_int Tryd.underlying39 (plain_of Tryd.func34 rfl rfl) (plain_of Tryd.func35 rfl rfl) ((new_calls w).mono fun e w' h => ⟨_, h.1, h.2.1⟩) fun v w' => K_calls Tryd.func35 bV codeV Tryd.results35 Tryd.ntmps35
noncomputable def bA : Code := (Tryd.f23.body).getD .skip
theorem codeA : Tryd.f23.body = some (gAgM 34 38 39 40 70 22 62 62 3 39 bA) := by kernel_rfl
/-- What impl.AgainOffsetDeleteRequest comes to. -/
theorem again {w : World} {ver : Int} {vs : Value} {B : Nat} {bs : List UInt8} (hB : B ≤ w.heap.size) (hv : Oc w B vs bs) (hl : bs.length ≤ lim) (hI : EI w) (hr : IntKind.i16.wrap ver = ver) (hf : Fits none none ver r (MwM r none) vlM bs) :
    Calls Tryd.prog 23 #[.int .i64 ver, vs] w (AgQ 5 none none ver r (MwM r none) vlM w bs) :=
  AgM_calls agc Tryd.func23 bA codeA Tryd.results23 Tryd.ntmps23 (plain_of Tryd.func34 rfl rfl) (plain_of Tryd.func38 rfl rfl) und_int Tryd.underlying39 (by decide) (by decide) new_calls set_calls hB hv hl hI hr hf
theorem ei_up {w w' : World} (h : EI w) (O : Only (fun _ => False) w w') : EI w' := agc.keep w w' h (O.mono fun _ _ h => h.elim)
theorem full {w : World} {vs : Value} {B : Nat} {ver : Int} {bs : List UInt8} (hB : B ≤ w.heap.size) (hv : Oc w B vs bs) (hr : IntKind.i16.wrap ver = ver) (h : Full (r.m ver (flexOf none ver)).w bs) (hl : bs.length ≤ lim) (hI : EI w) : Calls Tryd.prog 23 #[.int .i64 ver, vs] w (FullP 5 bs w) :=
  have k := fullM h (by unfold lim at hl; unfold lim2; omega)
  (again hB hv hl hI hr k.1).mono fun e w' h => fullP_of (k.2 h)
theorem cut {w : World} {vs : Value} {B : Nat} {ver : Int} {q s : List UInt8} (hB : B ≤ w.heap.size) (hv : Oc w B vs q) (hr : IntKind.i16.wrap ver = ver) (h : Full (r.m ver (flexOf none ver)).w (q ++ s)) (hs : s ≠ []) (hl : q.length ≤ lim) (hI : EI w) : Calls Tryd.prog 23 #[.int .i64 ver, vs] w (CutP w) :=
  have k := cutM h hs hl
  (again hB hv hl hI hr k.1).mono fun e w' h => k.2 h
theorem any2 {ver : Int} {bs : List UInt8} (hr : IntKind.i16.wrap ver = ver) (hok : (r.m ver (flexOf none ver)).w.ok = true) (hl : bs.length ≤ 32767) :
    (∃ out, out.length ≤ bs.length ∧ Full (r.m ver (flexOf none ver)).w out ∧ ∀ {w : World} {vs : Value} {B : Nat}, B ≤ w.heap.size → Oc w B vs bs → EI w → Calls Tryd.prog 23 #[.int .i64 ver, vs] w (FullP 5 out w)) ∨
      ∀ {w : World} {vs : Value} {B : Nat}, B ≤ w.heap.size → Oc w B vs bs → EI w → Calls Tryd.prog 23 #[.int .i64 ver, vs] w (CutP w) := by
  have hf := (anyM hok hl).1
  have hll : bs.length ≤ lim := by unfold lim; omega
  rcases anyM2 hok hl with ⟨out, h1, h4, h5⟩ | h
  · exact .inl ⟨out, h1, h4, fun hB hv hI => (again hB hv hll hI hr hf).mono fun e w' h => h5 h⟩
  · exact .inr fun hB hv hI => (again hB hv hll hI hr hf).mono fun e w' hh => h hh
end Go.Proofs.YtfimokbgggimmaaDoor.Kf.MOffsetDeleteRequest
