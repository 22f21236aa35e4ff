/- TxnMetadataKey: its schema; what the thin package's functions over it come to. -/
import Derived.Test.YtfimokbgggimmaaDoorMsgB
import Derived.Test.YtfimokbgggimmaaDoorLawA
import Derived.Handy
namespace Go.Proofs.YtfimokbgggimmaaDoor.Kf.MTxnMetadataKey
set_option linter.unusedVariables false
set_option linter.unusedSimpArgs false
set_option maxRecDepth 100000
open Go Go.RowKit

def r : R := .val .all 1 1 9 (.str1 false 63 64) .done
def a : A := .val .all 0 0 39 (.one (.prim .i16) 44) (.val .all 1 1 9 (.one (.str false false) 45) .done)
noncomputable def bR : Code := (Tryd.f43.body).getD .skip
noncomputable def bW : Code := (Tryd.f28.body).getD .skip
noncomputable def bD : Code := (Tryd.f27.body).getD .skip
def M0 : Nat := (if (none : Option Int).isSome then 11 else 10) + r.k
def M1 : Nat := Nat.max ((if (none : Option Int).isSome then 7 else 6) + a.k) 7
theorem codeR : Tryd.f43.body = some (gRead gn 59 80 42 39 M0 (some 62) none r bR) := by kernel_rfl
theorem codeW : Tryd.f28.body = some (gWrite hn 59 39 M1 none a bW) := by kernel_rfl
theorem codeD : Tryd.f27.body = some (gRF 43 80 22 4 bD) := by kernel_rfl
theorem sz9 : (Tryd.prog.info? 9).map (·.size) = some 1 := by kernel_rfl
theorem fa59_1 : FieldAt Tryd.prog 59 1 1 9 1 := fieldAt_of Tryd.underlying59 rfl rfl rfl sz9 (by decide)
theorem sz39 : (Tryd.prog.info? 39).map (·.size) = some 1 := by kernel_rfl
theorem fa59_0 : FieldAt Tryd.prog 59 0 0 39 1 := fieldAt_of Tryd.underlying59 rfl rfl rfl sz39 (by decide)
theorem one39 : One Tryd.prog 39 := one_of Tryd.underlying39 rfl sz39
theorem one9 : One Tryd.prog 9 := one_of Tryd.underlying9 rfl sz9
theorem okR : r.ok Tryd.prog false 59 1 2 := ⟨by decide, rd_string, fun flex => fa59_1, done_ok (by decide)⟩
theorem okW : a.ok Tryd.prog 5 false 59 := ⟨app_i16C, fun flex => ⟨fa59_0, (.inl ⟨one39, rfl, fun _ _ => rfl⟩)⟩, ⟨app_strC, fun flex => ⟨fa59_1, (.inl ⟨one9, rfl, fun _ _ => rfl⟩)⟩, trivial⟩⟩
theorem msgR : MsgR Tryd.prog gn 59 80 42 39 M0 Tryd.f43.ntmps 2 2 (some 62) none r EI :=
  ⟨rd_ok, rd_completeE, und_i32, rdrT, one_i16, fa59_0, (def_skip Tryd.func42 rfl rfl rfl), fun F h => by injection h with h; subst h; exact rd_int16, okR, by decide, by decide, by decide, rfl, by decide⟩
theorem msgW : MsgW Tryd.prog hn 59 39 M1 Tryd.f28.ntmps none a := ⟨und_int, und_u32, one_i16, fa59_0, okW, rfl, by decide, by decide⟩
theorem plain_of {F : Nat} {fn : Func} (hf : Tryd.prog.funcs[F]? = some fn) (hb : fn.body.isNone = false) (hn : (fn.name == "runtime.NumGoroutine") = false) : Plain Tryd.prog F := ⟨fn, hf, hb, hn⟩
theorem agc : AgC Tryd.prog 5 22 62 27 28 1 EI (some 62) none r (MwK r none) vlK 2 :=
  AgC.mk' (sl := 22) (bo := 4) msgR msgW Tryd.func43 bR codeR Tryd.results43 rfl (plain_of Tryd.func43 rfl rfl) Tryd.func27 bD codeD Tryd.results27 Tryd.ntmps27 (plain_of Tryd.func27 rfl rfl)
    Tryd.func28 bW codeW Tryd.results28 rfl (plain_of Tryd.func28 rfl rfl) Tryd.underlying22 info_u8 Tryd.underlying62 (errI_keep (L := 1 + 1) (Nat.lt_succ_self _)) (fun w h => h.2) vlK
    (fun w D b lo hi ver x bs bs0 ver0 hv hc hH => holds_kept hc (primDec_i16 hv) hH)
noncomputable def bA : Code := (Tryd.f10.body).getD .skip
theorem codeA : Tryd.f10.body = some (gAgK 26 59 27 28 59 22 62 62 bA) := by kernel_rfl
theorem def_c (w : World) (x : Value) : Calls Tryd.prog 42 #[x] w fun e w' => e = .returned (.tuple #[]) ∧ w' = w :=
  calls_of_wp Tryd.func42 rfl (wp_skip (bodyPost_end (results_none rfl _ _ _) rfl ⟨rfl, rfl⟩))
theorem new_calls (w : World) : Calls Tryd.prog 26 #[] w fun e w' => e = .returned (.agg #[.int .i16 0, .string ⟨#[]⟩]) ∧ Only (fun _ => False) w w' := by
  go_enter Tryd.func26, Tryd.ntmps26
  go_wp2_with (go_at_call 42; refine (def_c _ _).mono ?_; rintro e1 w1 ⟨rfl, rfl⟩)
  go_returns
  exact ⟨rfl, by first | exact ((Only.refl _ _).alloc _).alloc _ | exact ((Only.refl _ _).alloc _)⟩
theorem alc : Alc Tryd.prog 59 #[.int .i16 0, .string ⟨#[]⟩] := fun o a w h => by
  obtain ⟨d, op, t, p, af, g⟩ := o
  simp only at h
  subst h
  kernel_rfl
theorem szT : (Tryd.prog.info? 59).map (·.size) = some 2 := by kernel_rfl
/-- What impl.AgainTxnMetadataKey comes to. -/
theorem again {w : World} {vs : Value} {B : Nat} {bs : List UInt8} (hB : B ≤ w.heap.size) (hv : Oc w B vs bs) (hl : bs.length ≤ lim) (hI : EI w) (hf : Fits (some 62) none 0 r (MwK r none) vlK bs) :
    Calls Tryd.prog 10 #[vs] w (AgQ 5 (some 62) none 0 r (MwK r none) vlK w bs) :=
  AgK_calls agc Tryd.func10 bA codeA Tryd.results10 Tryd.ntmps10 (plain_of Tryd.func26 rfl rfl) (z := #[.int .i16 0, .string ⟨#[]⟩]) (cs := #[.int .i16 0, .string ⟨#[]⟩]) alc rfl rfl (by simp [Value.oneCell']) (info_of szT) new_calls rfl (by simp [R.nils, r]) hB hv hl hI hf
theorem ei_up {w w' : World} (h : EI w) (O : Only (fun _ => False) w w') : EI w' := agc.keep w w' h (O.mono fun _ _ h => h.elim)
theorem full {w : World} {vs : Value} {B : Nat} {ver : Int} {bs : List UInt8} (hB : B ≤ w.heap.size) (hv : Oc w B vs (beEnc 2 ver ++ bs)) (h0 : Prim.i16.lo ≤ ver) (h1 : ver < Prim.i16.hi) (h : Full (r.m ver (flexOf none ver)).w bs) (hl : bs.length + 2 ≤ lim) (hI : EI w) : Calls Tryd.prog 10 #[vs] w (FullP 5 (beEnc 2 ver ++ bs) w) :=
  have k := fullK (F := 62) h0 h1 h (by unfold lim at hl; unfold lim2; omega)
  (again hB hv (by simp [beEnc_length]; omega) hI k.1).mono fun e w' h => fullP_of (k.2 h)
theorem cut {w : World} {vs : Value} {B : Nat} {ver : Int} {bs q s : List UInt8} (hB : B ≤ w.heap.size) (hv : Oc w B vs q) (h0 : Prim.i16.lo ≤ ver) (h1 : ver < Prim.i16.hi) (h : Full (r.m ver (flexOf none ver)).w bs) (hq : beEnc 2 ver ++ bs = q ++ s) (hs : s ≠ []) (hl : q.length ≤ lim) (hI : EI w) : Calls Tryd.prog 10 #[vs] w (CutP w) :=
  have k := cutK (F := 62) h0 h1 h hq hs
  (again hB hv hl hI k.1).mono fun e w' h => k.2 h
theorem any2 {bs : List UInt8} (hok : ∀ ver, (r.m ver (flexOf none ver)).w.ok = true) (hl : bs.length ≤ 32767) :
    (∃ ver out, out.length ≤ bs.length ∧ Prim.i16.lo ≤ ver ∧ ver < Prim.i16.hi ∧ Full (r.m ver (flexOf none ver)).w out ∧ ∀ {w : World} {vs : Value} {B : Nat}, B ≤ w.heap.size → Oc w B vs bs → EI w → Calls Tryd.prog 10 #[vs] w (FullP 5 (beEnc 2 ver ++ out) w)) ∨
      ∀ {w : World} {vs : Value} {B : Nat}, B ≤ w.heap.size → Oc w B vs bs → EI w → Calls Tryd.prog 10 #[vs] w (CutP w) := by
  have hf := (anyK (F := 62) hok hl).1
  have hll : bs.length ≤ lim := by unfold lim; omega
  rcases anyK2 (F := 62) hok hl with ⟨ver, out, h1, h2, h3, h4, h5⟩ | h
  · exact .inl ⟨ver, out, h1, h2, h3, h4, fun hB hv hI => (again hB hv hll hI hf).mono fun e w' h => h5 h⟩
  · exact .inr fun hB hv hI => (again hB hv hll hI hf).mono fun e w' hh => h hh
end Go.Proofs.YtfimokbgggimmaaDoor.Kf.MTxnMetadataKey
