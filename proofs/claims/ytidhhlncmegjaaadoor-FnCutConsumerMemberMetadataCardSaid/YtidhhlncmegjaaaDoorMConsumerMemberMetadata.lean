/- ConsumerMemberMetadata: its schema; what the thin package's functions over it come to. -/
import Derived.Test.YtidhhlncmegjaaaDoorMsgB
import Derived.Test.YtidhhlncmegjaaaDoorLawA
import Derived.Test.YtidhhlncmegjaaaDoorDfA
import Derived.Handy
namespace Go.Proofs.YtidhhlncmegjaaaDoor.Kf.MConsumerMemberMetadata
set_option linter.unusedVariables false
set_option linter.unusedSimpArgs false
set_option maxRecDepth 100000
open Go Go.RowKit

def r : R := .arrV .all 1 1 49 16 [.string ⟨#[]⟩] (.one 131) none 9 (.str1 false 134 135) (.val .all 2 2 22 (.byt1 true 136) (.arrS (.ge 1) 3 3 50 40 [.string ⟨#[]⟩, .slice none 0 0] (.one 131) none 137 88 91 (.val .all 0 0 9 (.str1 false 134 135) (.arrV .all 1 1 89 4 [.int .i32 0] (.one 131) none 21 (.prim .i32 138) .done)) (.val (.ge 2) 4 4 21 (.prim .i32 138) (.val (.ge 3) 5 5 51 (.str1 true 139 140) .done))))
def a : A := .val .all 0 0 48 (.one (.prim .i16) 88) (.arrV .all 1 1 49 16 [.string ⟨#[]⟩] none (.one false 89) 9 (.one (.str false false) 90) (.val .all 2 2 22 (.one (.byt false true) 91) (.arrS (.ge 1) 3 3 50 40 [.string ⟨#[]⟩, .slice none 0 0] none (.one false 89) 91 (.val .all 0 0 9 (.one (.str false false) 90) (.arrV .all 1 1 89 4 [.int .i32 0] none (.one false 89) 21 (.one (.prim .i32) 92) .done)) (.val (.ge 2) 4 4 21 (.one (.prim .i32) 92) (.val (.ge 3) 5 5 51 (.one (.str false true) 93) .done)))))
noncomputable def bR : Code := (Tryd.f87.body).getD .skip
noncomputable def bW : Code := (Tryd.f43.body).getD .skip
noncomputable def bD : Code := (Tryd.f42.body).getD .skip
def M0 : Nat := (if (none : Option Int).isSome then 11 else 10) + r.k
def M1 : Nat := Nat.max ((if (none : Option Int).isSome then 7 else 6) + a.k) 7
theorem mwa : (fun ver => a.m ver (flexOf none ver)) = MwK r none := by
  funext ver
  unfold MwK
  generalize flexOf none ver = flex
  cases flex <;> rfl
theorem codeR : Tryd.f87.body = some (gRead gn 53 82 86 48 M0 (some 130) none r bR) := by kernel_rfl
theorem codeW : Tryd.f43.body = some (gWrite hn 53 48 M1 none a bW) := by kernel_rfl
theorem codeD : Tryd.f42.body = some (gRF 87 82 22 4 bD) := by kernel_rfl
theorem sz49 : (Tryd.prog.info? 49).map (·.size) = some 1 := by kernel_rfl
theorem fa53_1 : FieldAt Tryd.prog 53 1 1 49 1 := fieldAt_of Tryd.underlying53 rfl rfl rfl sz49 (by decide)
theorem sl49 : Sl Tryd.prog 49 1 16 [.string ⟨#[]⟩] := sl_of Tryd.underlying49 (by kernel_rfl) sz49 (by decide) rfl
theorem sz9 : (Tryd.prog.info? 9).map (·.size) = some 1 := by kernel_rfl
theorem sz22 : (Tryd.prog.info? 22).map (·.size) = some 1 := by kernel_rfl
theorem fa53_2 : FieldAt Tryd.prog 53 2 2 22 1 := fieldAt_of Tryd.underlying53 rfl rfl rfl sz22 (by decide)
theorem sz50 : (Tryd.prog.info? 50).map (·.size) = some 1 := by kernel_rfl
theorem fa53_3 : FieldAt Tryd.prog 53 3 3 50 1 := fieldAt_of Tryd.underlying53 rfl rfl rfl sz50 (by decide)
theorem sl50 : Sl Tryd.prog 50 2 40 [.string ⟨#[]⟩, .slice none 0 0] := sl_of Tryd.underlying50 (by kernel_rfl) sz50 (by decide) rfl
theorem fa91_0 : FieldAt Tryd.prog 91 0 0 9 1 := fieldAt_of Tryd.underlying91 rfl rfl rfl sz9 (by decide)
theorem sz89 : (Tryd.prog.info? 89).map (·.size) = some 1 := by kernel_rfl
theorem fa91_1 : FieldAt Tryd.prog 91 1 1 89 1 := fieldAt_of Tryd.underlying91 rfl rfl rfl sz89 (by decide)
theorem sl89 : Sl Tryd.prog 89 1 4 [.int .i32 0] := sl_of Tryd.underlying89 (by kernel_rfl) sz89 (by decide) rfl
theorem sz21 : (Tryd.prog.info? 21).map (·.size) = some 1 := by kernel_rfl
theorem fa53_4 : FieldAt Tryd.prog 53 4 4 21 1 := fieldAt_of Tryd.underlying53 rfl rfl rfl sz21 (by decide)
theorem sz51 : (Tryd.prog.info? 51).map (·.size) = some 1 := by kernel_rfl
theorem fa53_5 : FieldAt Tryd.prog 53 5 5 51 1 := fieldAt_of Tryd.underlying53 rfl rfl rfl sz51 (by decide)
theorem sz48 : (Tryd.prog.info? 48).map (·.size) = some 1 := by kernel_rfl
theorem fa53_0 : FieldAt Tryd.prog 53 0 0 48 1 := fieldAt_of Tryd.underlying53 rfl rfl rfl sz48 (by decide)
theorem one48 : One Tryd.prog 48 := one_of Tryd.underlying48 rfl sz48
theorem one9 : One Tryd.prog 9 := one_of Tryd.underlying9 rfl sz9
theorem one22 : One Tryd.prog 22 := one_of Tryd.underlying22 rfl sz22
theorem one21 : One Tryd.prog 21 := one_of Tryd.underlying21 rfl sz21
theorem one51 : One Tryd.prog 51 := one_of Tryd.underlying51 rfl sz51
def dl_ConsumerMemberMetadata : List DS := [⟨4, 4, 21, .int .i32 (-1)⟩]
noncomputable def bDf_ConsumerMemberMetadata : Code := (Tryd.f86.body).getD .skip
theorem def_ConsumerMemberMetadata : DefC Tryd.prog 86 6 [0, 1, 3] :=
  def_set (T := 53) (l := dl_ConsumerMemberMetadata) Tryd.func86 bDf_ConsumerMemberMetadata (by kernel_rfl) Tryd.results86 Tryd.ntmps86 (by decide) rfl (fun x hx => by
    simp only [dl_ConsumerMemberMetadata, List.mem_cons, List.not_mem_nil, or_false] at hx
    subst hx; exact ⟨fa53_4, rfl, rfl, by decide, by decide⟩)
theorem okR : r.ok Tryd.prog false 53 1 6 := ⟨by decide, rd_string, rd_alen, fa53_1, sl49, by decide, info_of sz9, fun flex => rfl, ⟨by decide, rd_nbytes, fun flex => fa53_2, ⟨by decide, rd_alen, fa53_3, sl50, by decide, (def_skip Tryd.func137 rfl rfl rfl), nils_ok rfl, ⟨by decide, rd_string, fun flex => fa91_0, ⟨by decide, NumC.rd (by decide) rd_int32, rd_alen, fa91_1, sl89, by decide, info_of sz21, fun flex => rfl, done_ok (by decide)⟩⟩, ⟨by decide, NumC.rd (by decide) rd_int32, fun flex => fa53_4, ⟨by decide, rd_nstring, fun flex => fa53_5, done_ok (by decide)⟩⟩⟩⟩⟩
theorem okW : a.ok Tryd.prog 5 true false 53 := ⟨app_i16C, fun flex => ⟨fa53_0, (.inl ⟨one48, rfl, fun _ _ => rfl⟩)⟩, ⟨rfl, len_plain, fa53_1, sl49, app_strC, fun flex => ⟨by cases flex <;> rfl, by cases flex <;> exact (.inl ⟨one9, rfl, fun _ _ => rfl⟩)⟩, ⟨app_nbytC, fun flex => ⟨fa53_2, (.inl ⟨one22, rfl, fun _ _ => rfl⟩)⟩, ⟨rfl, len_plain, fa53_3, sl50, ⟨app_strC, fun flex => ⟨fa91_0, (.inl ⟨one9, rfl, fun _ _ => rfl⟩)⟩, ⟨rfl, len_plain, fa91_1, sl89, app_i32C, fun flex => ⟨by cases flex <;> rfl, by cases flex <;> exact (.inl ⟨one21, rfl, fun _ _ => rfl⟩)⟩, trivial⟩⟩, ⟨app_i32C, fun flex => ⟨fa53_4, (.inl ⟨one21, rfl, fun _ _ => rfl⟩)⟩, ⟨app_nstrC, fun flex => ⟨fa53_5, (.inl ⟨one51, rfl, fun _ _ => rfl⟩)⟩, trivial⟩⟩⟩⟩⟩⟩
theorem msgR : MsgR Tryd.prog gn 53 82 86 48 M0 Tryd.f87.ntmps 6 6 (some 130) none r EI :=
  ⟨rd_ok, rd_completeE, und_i32, rdrT, one_i16, fa53_0, def_ConsumerMemberMetadata, fun F h => by injection h with h; subst h; exact rd_int16, okR, by decide, by decide, by decide, rfl, by decide⟩
theorem msgW : MsgW Tryd.prog hn true 53 48 M1 Tryd.f43.ntmps none a := ⟨und_int, und_u32, one_i16, fa53_0, okW, rfl, by decide, by decide⟩
theorem plain_of {F : Nat} {fn : Func} (hf : Tryd.prog.funcs[F]? = some fn) (hb : fn.body.isNone = false) (hn : (fn.name == "runtime.NumGoroutine") = false) : Plain Tryd.prog F := ⟨fn, hf, hb, hn⟩
theorem agc : AgC Tryd.prog 5 22 56 42 43 1 EI (some 130) none r (MwK r none) vlK 6 :=
  mwa ▸ AgC.mk' (sl := 22) (bo := 4) msgR msgW Tryd.func87 bR codeR Tryd.results87 rfl (plain_of Tryd.func87 rfl rfl) Tryd.func42 bD codeD Tryd.results42 Tryd.ntmps42 (plain_of Tryd.func42 rfl rfl)
    Tryd.func43 bW codeW Tryd.results43 rfl (plain_of Tryd.func43 rfl rfl) Tryd.underlying22 info_u8 Tryd.underlying56 (errI_keep (L := 1 + 1) (Nat.lt_succ_self _)) (fun w h => h.2) vlK
    (fun w D b lo hi ver x bs bs0 ver0 hv hc hH => by have e : a.m ver (flexOf none ver) = MwK r none ver := congrFun mwa ver; rw [e]; exact holds_kept hc (primDec_i16 hv) hH)
noncomputable def bA : Code := (Tryd.f15.body).getD .skip
theorem codeA : Tryd.f15.body = some (gAgK 41 53 42 43 53 22 56 56 bA) := by kernel_rfl
theorem new_calls (w : World) : Calls Tryd.prog 41 #[] w fun e w' => e = .returned (.agg #[.int .i16 0, .slice none 0 0, .slice none 0 0, .slice none 0 0, .int .i32 (-1), .pointer none]) ∧ Only (fun _ => False) w w' := by
  go_enter Tryd.func41, Tryd.ntmps41
  go_wp2
  go_returns
  exact ⟨rfl, ((Only.refl _ _).alloc _).alloc _⟩
theorem alc : Alc Tryd.prog 53 #[.int .i16 0, .slice none 0 0, .slice none 0 0, .slice none 0 0, .int .i32 0, .pointer none] := fun o a w h => by
  obtain ⟨d, op, t, p, af, g⟩ := o
  simp only at h
  subst h
  kernel_rfl
theorem szT : (Tryd.prog.info? 53).map (·.size) = some 6 := by kernel_rfl
/-- What impl.AgainConsumerMemberMetadata comes to. -/
theorem again {w : World} {vs : Value} {B : Nat} {bs : List UInt8} (hB : B ≤ w.heap.size) (hv : Oc w B vs bs) (hl : bs.length ≤ lim) (hI : EI w) (hf : Fits (some 130) none 0 r (MwK r none) vlK bs) :
    Calls Tryd.prog 15 #[vs] w (AgQ 5 (some 130) none 0 r (MwK r none) vlK w bs) :=
  AgK_calls agc Tryd.func15 bA codeA Tryd.results15 Tryd.ntmps15 (plain_of Tryd.func41 rfl rfl) (z := #[.int .i16 0, .slice none 0 0, .slice none 0 0, .slice none 0 0, .int .i32 0, .pointer none]) (cs := #[.int .i16 0, .slice none 0 0, .slice none 0 0, .slice none 0 0, .int .i32 (-1), .pointer none]) alc rfl rfl (by simp [Value.oneCell']) (info_of szT) new_calls rfl (by simp [R.nils, r]) hB hv hl hI hf
theorem ei_up {w w' : World} (h : EI w) (O : Only (fun _ => False) w w') : EI w' := agc.keep w w' h (O.mono fun _ _ h => h.elim)
theorem full {w : World} {vs : Value} {B : Nat} {ver : Int} {bs : List UInt8} (hB : B ≤ w.heap.size) (hv : Oc w B vs (beEnc 2 ver ++ bs)) (h0 : Prim.i16.lo ≤ ver) (h1 : ver < Prim.i16.hi) (h : Full (r.m ver (flexOf none ver)).w bs) (hl : bs.length + 2 ≤ lim) (hI : EI w) : Calls Tryd.prog 15 #[vs] w (FullP 5 (beEnc 2 ver ++ bs) w) :=
  have k := fullK (F := 130) h0 h1 h (by unfold lim at hl; unfold lim2; omega)
  (again hB hv (by simp [beEnc_length]; omega) hI k.1).mono fun e w' h => fullP_of (k.2 h)
theorem cut {w : World} {vs : Value} {B : Nat} {ver : Int} {bs q s : List UInt8} (hB : B ≤ w.heap.size) (hv : Oc w B vs q) (h0 : Prim.i16.lo ≤ ver) (h1 : ver < Prim.i16.hi) (h : Full (r.m ver (flexOf none ver)).w bs) (hq : beEnc 2 ver ++ bs = q ++ s) (hs : s ≠ []) (hl : q.length ≤ lim) (hI : EI w) : Calls Tryd.prog 15 #[vs] w (CutP w) :=
  have k := cutK (F := 130) h0 h1 h hq hs
  (again hB hv hl hI k.1).mono fun e w' h => k.2 h
theorem any2 {bs : List UInt8} (hok : ∀ ver, (r.m ver (flexOf none ver)).w.ok = true) (hl : bs.length ≤ 32767) :
    (∃ ver out, out.length ≤ bs.length ∧ Prim.i16.lo ≤ ver ∧ ver < Prim.i16.hi ∧ Full (r.m ver (flexOf none ver)).w out ∧ ∀ {w : World} {vs : Value} {B : Nat}, B ≤ w.heap.size → Oc w B vs bs → EI w → Calls Tryd.prog 15 #[vs] w (FullP 5 (beEnc 2 ver ++ out) w)) ∨
      ∀ {w : World} {vs : Value} {B : Nat}, B ≤ w.heap.size → Oc w B vs bs → EI w → Calls Tryd.prog 15 #[vs] w (CutP w) := by
  have hf := (anyK (F := 130) hok hl).1
  have hll : bs.length ≤ lim := by unfold lim; omega
  rcases anyK2 (F := 130) hok hl with ⟨ver, out, h1, h2, h3, h4, h5⟩ | h
  · exact .inl ⟨ver, out, h1, h2, h3, h4, fun hB hv hI => (again hB hv hll hI hf).mono fun e w' h => h5 h⟩
  · exact .inr fun hB hv hI => (again hB hv hll hI hf).mono fun e w' hh => h hh
end Go.Proofs.YtidhhlncmegjaaaDoor.Kf.MConsumerMemberMetadata
