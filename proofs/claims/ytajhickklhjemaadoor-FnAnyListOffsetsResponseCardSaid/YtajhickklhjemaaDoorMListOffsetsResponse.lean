/- ListOffsetsResponse: its schema; what the thin package's functions over it come to. -/
import Derived.Test.YtajhickklhjemaaDoorMsgB
import Derived.Test.YtajhickklhjemaaDoorLawA
import Derived.Test.YtajhickklhjemaaDoorDfA
import Derived.Handy
import Derived.Test.YtajhickklhjemaaDoorTagC
import Derived.Test.YtajhickklhjemaaDoorTagG
import Derived.Test.YtajhickklhjemaaDoorKbT
namespace Go.Proofs.YtajhickklhjemaaDoor.Kf.MListOffsetsResponse
set_option linter.unusedVariables false
set_option linter.unusedSimpArgs false
set_option maxRecDepth 100000
open Go Go.RowKit

def r : R := .val (.ge 2) 1 1 21 (.prim .i32 35) (.arrS .all 2 2 40 48 [.string ⟨#[]⟩, .slice none 0 0, .map none] (.two 36 37) none 40 49 52 (.val .all 0 0 9 (.str2 false 41 42 43 44) (.arrS .all 1 1 50 64 [.int .i32 0, .int .i16 0, .slice none 0 0, .int .i64 0, .int .i64 0, .int .i32 0, .map none] (.two 36 37) none 45 54 57 (.val .all 0 0 21 (.prim .i32 35) (.val .all 1 1 29 (.prim .i16 46) (.arrV (.rng 0 0) 2 2 55 8 [.int .i64 0] (.two 36 37) none 2 (.prim .i64 47) (.val (.ge 1) 3 3 2 (.prim .i64 47) (.val (.ge 1) 4 4 2 (.prim .i64 47) (.val (.ge 4) 5 5 21 (.prim .i32 35) (.tags 6 6 43 48 .done))))))) (.tags 2 2 43 48 .done))) (.tags 3 3 43 48 .done))
def a : A := .val (.ge 2) 1 1 21 (.one (.prim .i32) 23) (.arrS .all 2 2 40 48 [.string ⟨#[]⟩, .slice none 0 0, .map none] none (.two false 24 25) 52 (.val .all 0 0 9 (.two (.str true false) (.str false false) 26 27) (.arrS .all 1 1 50 64 [.int .i32 0, .int .i16 0, .slice none 0 0, .int .i64 0, .int .i64 0, .int .i32 0, .map none] none (.two false 24 25) 57 (.val .all 0 0 21 (.one (.prim .i32) 23) (.val .all 1 1 29 (.one (.prim .i16) 28) (.arrV (.rng 0 0) 2 2 55 8 [.int .i64 0] none (.two false 24 25) 2 (.one (.prim .i64) 29) (.val (.ge 1) 3 3 2 (.one (.prim .i64) 29) (.val (.ge 1) 4 4 2 (.one (.prim .i64) 29) (.val (.ge 4) 5 5 21 (.one (.prim .i32) 23) (.tags 6 6 43 31 30 32 .done))))))) (.tags 2 2 43 31 30 32 .done))) (.tags 3 3 43 31 30 32 .done))
noncomputable def bR : Code := (Tryd.f22.body).getD .skip
noncomputable def bW : Code := (Tryd.f15.body).getD .skip
noncomputable def bD : Code := (Tryd.f14.body).getD .skip
def M0 : Nat := (if ((some 6) : Option Int).isSome then 11 else 10) + r.k
def M1 : Nat := Nat.max ((if ((some 6) : Option Int).isSome then 7 else 6) + a.k) 7
theorem mwa : (fun ver => a.m ver (flexOf (some 6) ver)) = MwM r (some 6) := by
  funext ver
  unfold MwM
  generalize flexOf (some 6) ver = flex
  cases flex <;> rfl
theorem codeR : Tryd.f22.body = some (gRead gn 45 30 21 29 M0 none (some 6) r bR) := by kernel_rfl
theorem codeW : Tryd.f15.body = some (gWrite hn 45 29 M1 (some 6) a bW) := by kernel_rfl
theorem codeD : Tryd.f14.body = some (gRF 22 30 22 4 bD) := by kernel_rfl
theorem sz21 : (Tryd.prog.info? 21).map (·.size) = some 1 := by kernel_rfl
theorem fa45_1 : FieldAt Tryd.prog 45 1 1 21 1 := fieldAt_of Tryd.underlying45 rfl rfl rfl sz21 (by decide)
theorem sz40 : (Tryd.prog.info? 40).map (·.size) = some 1 := by kernel_rfl
theorem fa45_2 : FieldAt Tryd.prog 45 2 2 40 1 := fieldAt_of Tryd.underlying45 rfl rfl rfl sz40 (by decide)
theorem sl40 : Sl Tryd.prog 40 3 48 [.string ⟨#[]⟩, .slice none 0 0, .map none] := sl_of Tryd.underlying40 (by kernel_rfl) sz40 (by decide) rfl
theorem sz9 : (Tryd.prog.info? 9).map (·.size) = some 1 := by kernel_rfl
theorem fa52_0 : FieldAt Tryd.prog 52 0 0 9 1 := fieldAt_of Tryd.underlying52 rfl rfl rfl sz9 (by decide)
theorem sz50 : (Tryd.prog.info? 50).map (·.size) = some 1 := by kernel_rfl
theorem fa52_1 : FieldAt Tryd.prog 52 1 1 50 1 := fieldAt_of Tryd.underlying52 rfl rfl rfl sz50 (by decide)
theorem sl50 : Sl Tryd.prog 50 7 64 [.int .i32 0, .int .i16 0, .slice none 0 0, .int .i64 0, .int .i64 0, .int .i32 0, .map none] := sl_of Tryd.underlying50 (by kernel_rfl) sz50 (by decide) rfl
theorem fa57_0 : FieldAt Tryd.prog 57 0 0 21 1 := fieldAt_of Tryd.underlying57 rfl rfl rfl sz21 (by decide)
theorem sz29 : (Tryd.prog.info? 29).map (·.size) = some 1 := by kernel_rfl
theorem fa57_1 : FieldAt Tryd.prog 57 1 1 29 1 := fieldAt_of Tryd.underlying57 rfl rfl rfl sz29 (by decide)
theorem sz55 : (Tryd.prog.info? 55).map (·.size) = some 1 := by kernel_rfl
theorem fa57_2 : FieldAt Tryd.prog 57 2 2 55 1 := fieldAt_of Tryd.underlying57 rfl rfl rfl sz55 (by decide)
theorem sl55 : Sl Tryd.prog 55 1 8 [.int .i64 0] := sl_of Tryd.underlying55 (by kernel_rfl) sz55 (by decide) rfl
theorem sz2 : (Tryd.prog.info? 2).map (·.size) = some 1 := by kernel_rfl
theorem fa57_3 : FieldAt Tryd.prog 57 3 3 2 1 := fieldAt_of Tryd.underlying57 rfl rfl rfl sz2 (by decide)
theorem fa57_4 : FieldAt Tryd.prog 57 4 4 2 1 := fieldAt_of Tryd.underlying57 rfl rfl rfl sz2 (by decide)
theorem fa57_5 : FieldAt Tryd.prog 57 5 5 21 1 := fieldAt_of Tryd.underlying57 rfl rfl rfl sz21 (by decide)
theorem sz43 : (Tryd.prog.info? 43).map (·.size) = some 1 := by kernel_rfl
theorem fa57_6 : FieldAt Tryd.prog 57 6 6 43 1 := fieldAt_of Tryd.underlying57 rfl rfl rfl sz43 (by decide)
def dl_ListOffsetsResponseTopicPartition : List DS := [⟨3, 3, 2, .int .i64 (-1)⟩, ⟨4, 4, 2, .int .i64 (-1)⟩, ⟨5, 5, 21, .int .i32 (-1)⟩]
noncomputable def bDf_ListOffsetsResponseTopicPartition : Code := (Tryd.f45.body).getD .skip
theorem def_ListOffsetsResponseTopicPartition : DefC Tryd.prog 45 7 [2] :=
  def_set (T := 57) (l := dl_ListOffsetsResponseTopicPartition) Tryd.func45 bDf_ListOffsetsResponseTopicPartition (by kernel_rfl) Tryd.results45 Tryd.ntmps45 (by decide) rfl (fun x hx => by
    simp only [dl_ListOffsetsResponseTopicPartition, List.mem_cons, List.not_mem_nil, or_false] at hx
    rcases hx with rfl | rfl | rfl
    · exact ⟨fa57_3, rfl, rfl, by decide, by decide⟩
    · exact ⟨fa57_4, rfl, rfl, by decide, by decide⟩
    · exact ⟨fa57_5, rfl, rfl, by decide, by decide⟩)
theorem fa52_2 : FieldAt Tryd.prog 52 2 2 43 1 := fieldAt_of Tryd.underlying52 rfl rfl rfl sz43 (by decide)
theorem fa45_3 : FieldAt Tryd.prog 45 3 3 43 1 := fieldAt_of Tryd.underlying45 rfl rfl rfl sz43 (by decide)
theorem one21 : One Tryd.prog 21 := one_of Tryd.underlying21 rfl sz21
theorem one9 : One Tryd.prog 9 := one_of Tryd.underlying9 rfl sz9
theorem one29 : One Tryd.prog 29 := one_of Tryd.underlying29 rfl sz29
theorem one2 : One Tryd.prog 2 := one_of Tryd.underlying2 rfl sz2
theorem fa45_0 : FieldAt Tryd.prog 45 0 0 29 1 := fieldAt_of Tryd.underlying45 rfl rfl rfl sz29 (by decide)
theorem okR : r.ok Tryd.prog true 45 1 4 := ⟨by decide, NumC.rd (by decide) rd_int32, fun flex => fa45_1, ⟨by decide, ⟨rfl, rd_calen, rd_alen⟩, fa45_2, sl40, by decide, (def_skip Tryd.func40 rfl rfl rfl), nils_ok rfl, ⟨by decide, ⟨rfl, rd_cstring, rd_string⟩, fun flex => fa52_0, ⟨by decide, ⟨rfl, rd_calen, rd_alen⟩, fa52_1, sl50, by decide, def_ListOffsetsResponseTopicPartition, nils_ok rfl, ⟨by decide, NumC.rd (by decide) rd_int32, fun flex => fa57_0, ⟨by decide, NumC.rd (by decide) rd_int16, fun flex => fa57_1, ⟨by decide, NumC.rd (by decide) rd_int64, ⟨rfl, rd_calen, rd_alen⟩, fa57_2, sl55, by decide, info_of sz2, fun flex => rfl, ⟨by decide, NumC.rd (by decide) rd_int64, fun flex => fa57_3, ⟨by decide, NumC.rd (by decide) rd_int64, fun flex => fa57_4, ⟨by decide, NumC.rd (by decide) rd_int32, fun flex => fa57_5, ⟨by decide, rfl, rd_tags, fa57_6, done_ok (by decide)⟩⟩⟩⟩⟩⟩⟩, ⟨by decide, rfl, rd_tags, fa52_2, done_ok (by decide)⟩⟩⟩, ⟨by decide, rfl, rd_tags, fa45_3, done_ok (by decide)⟩⟩⟩
theorem okW : a.ok Tryd.prog 5 true true 45 := ⟨app_i32C, fun flex => ⟨fa45_1, (.inl ⟨one21, rfl, fun _ _ => rfl⟩)⟩, ⟨rfl, ⟨rfl, len_compact, len_plain⟩, fa45_2, sl40, ⟨⟨rfl, app_cstrC, app_strC⟩, fun flex => by cases flex <;> exact ⟨fa52_0, (.inl ⟨one9, rfl, fun _ _ => rfl⟩)⟩, ⟨rfl, ⟨rfl, len_compact, len_plain⟩, fa52_1, sl50, ⟨app_i32C, fun flex => ⟨fa57_0, (.inl ⟨one21, rfl, fun _ _ => rfl⟩)⟩, ⟨app_i16C, fun flex => ⟨fa57_1, (.inl ⟨one29, rfl, fun _ _ => rfl⟩)⟩, ⟨rfl, ⟨rfl, len_compact, len_plain⟩, fa57_2, sl55, app_i64C, fun flex => ⟨by cases flex <;> rfl, by cases flex <;> exact (.inl ⟨one2, rfl, fun _ _ => rfl⟩)⟩, ⟨app_i64C, fun flex => ⟨fa57_3, (.inl ⟨one2, rfl, fun _ _ => rfl⟩)⟩, ⟨app_i64C, fun flex => ⟨fa57_4, (.inl ⟨one2, rfl, fun _ _ => rfl⟩)⟩, ⟨app_i32C, fun flex => ⟨fa57_5, (.inl ⟨one21, rfl, fun _ _ => rfl⟩)⟩, ⟨rfl, fa57_6, tags_len, app_uvarint, tags_each, trivial⟩⟩⟩⟩⟩⟩⟩, ⟨rfl, fa52_2, tags_len, app_uvarint, tags_each, trivial⟩⟩⟩, ⟨rfl, fa45_3, tags_len, app_uvarint, tags_each, trivial⟩⟩⟩
theorem msgR : MsgR Tryd.prog gn 45 30 21 29 M0 Tryd.f22.ntmps 4 4 none (some 6) r EI :=
  ⟨rd_ok, rd_completeE, und_i32, rdrT, one_i16, fa45_0, (def_skip Tryd.func21 rfl rfl rfl), fun F h => (by cases h), okR, by decide, by decide, by decide, rfl, by decide⟩
theorem msgW : MsgW Tryd.prog hn true 45 29 M1 Tryd.f15.ntmps (some 6) a := ⟨und_int, und_u32, one_i16, fa45_0, okW, rfl, by decide, by decide⟩
theorem plain_of {F : Nat} {fn : Func} (hf : Tryd.prog.funcs[F]? = some fn) (hb : fn.body.isNone = false) (hn : (fn.name == "runtime.NumGoroutine") = false) : Plain Tryd.prog F := ⟨fn, hf, hb, hn⟩
theorem agc : AgC Tryd.prog 5 22 35 14 15 1 EI none (some 6) r (MwM r (some 6)) vlM 4 :=
  mwa ▸ AgC.mk' (sl := 22) (bo := 4) msgR msgW Tryd.func22 bR codeR Tryd.results22 rfl (plain_of Tryd.func22 rfl rfl) Tryd.func14 bD codeD Tryd.results14 Tryd.ntmps14 (plain_of Tryd.func14 rfl rfl)
    Tryd.func15 bW codeW Tryd.results15 rfl (plain_of Tryd.func15 rfl rfl) Tryd.underlying22 info_u8 Tryd.underlying35 (errI_keep (L := 1 + 1) (Nat.lt_succ_self _)) (fun w h => h.2) vlM
    (fun w D b lo hi ver x bs bs0 ver0 hv hc hH => by have e : a.m ver (flexOf (some 6) ver) = MwM r (some 6) ver := congrFun mwa ver; rw [e]; exact hH)
noncomputable def bP : Code := (Tryd.f11.body).getD .skip
noncomputable def bS : Code := (Tryd.f13.body).getD .skip
noncomputable def bV : Code := (Tryd.f12.body).getD .skip
noncomputable def bX : Code := (Tryd.f5.body).getD .skip
theorem codeP : Tryd.f11.body = some (gNP 21 45 30 bP) := by kernel_rfl
theorem codeS : Tryd.f13.body = some (gSV 45 29 bS) := by kernel_rfl
theorem codeV : Tryd.f12.body = some (gK (.int .i16 0) (.int .i16 11) bV) := by kernel_rfl
theorem codeX : Tryd.f5.body = some (gMx 11 12 30 29 3 bX) := by kernel_rfl
theorem alc : Alc Tryd.prog 45 #[.int .i16 0, .int .i32 0, .slice none 0 0, .map none] := fun o a w h => by
  obtain ⟨d, op, t, p, af, g⟩ := o
  simp only at h
  subst h
  kernel_rfl
theorem new_calls (w : World) : Calls Tryd.prog 11 #[] w fun e w' => e = .returned (.pointer (some ⟨w.heap.size, 0, none⟩)) ∧ Only (fun _ => False) w w' ∧ Blk w' w.heap.size 4 ∧ ∀ q ∈ r.nils, w'.cell? ⟨w.heap.size, q, none⟩ = some (.slice none 0 0) :=
  (NP_calls (ks := 0 :: r.nils) Tryd.func11 bP codeP Tryd.results11 Tryd.ntmps11 alc rfl (def_skip Tryd.func21 rfl rfl rfl)).mono fun e w' h => ⟨h.1, h.2.1, h.2.2.1, fun q hq => (h.2.2.2 q (List.mem_cons_of_mem _ hq)).trans (nilsZ rfl q hq)⟩
theorem set_calls (w : World) (b : Nat) (n : Int) (hb : Blk w b 4) : Calls Tryd.prog 13 #[.pointer (some ⟨b, 0, none⟩), .int .i16 n] w fun e w' => e = .returned (.tuple #[]) ∧ Only (· = b) w w' ∧ Upd b 0 1 w w' ∧ w'.cell? ⟨b, 0, none⟩ = some (.int .i16 n) :=
  SV_calls Tryd.func13 bS codeS Tryd.results13 Tryd.ntmps13 fa45_0 hb (by decide)
theorem max_calls (w : World) : Calls Tryd.prog 5 #[] w fun e w' => e = .returned (.int .i64 11) ∧ Only (fun _ => False) w w' :=
  Mx_calls Tryd.func5 bX codeX Tryd.results5 Tryd.ntmps5 und_int Tryd.underlying29 (plain_of Tryd.func11 rfl rfl) (plain_of Tryd.func12 rfl rfl) ((new_calls w).mono fun e w' h => ⟨_, h.1, h.2.1⟩) fun v w' => K_calls Tryd.func12 bV codeV Tryd.results12 Tryd.ntmps12
noncomputable def bA : Code := (Tryd.f6.body).getD .skip
theorem codeA : Tryd.f6.body = some (gAgM 11 13 14 15 30 22 35 35 3 29 bA) := by kernel_rfl
/-- What impl.AgainListOffsetsResponse comes to. -/
theorem again {w : World} {ver : Int} {vs : Value} {B : Nat} {bs : List UInt8} (hB : B ≤ w.heap.size) (hv : Oc w B vs bs) (hl : bs.length ≤ lim) (hI : EI w) (hr : IntKind.i16.wrap ver = ver) (hf : Fits none (some 6) ver r (MwM r (some 6)) vlM bs) :
    Calls Tryd.prog 6 #[.int .i64 ver, vs] w (AgQ 5 none (some 6) ver r (MwM r (some 6)) vlM w bs) :=
  AgM_calls agc Tryd.func6 bA codeA Tryd.results6 Tryd.ntmps6 (plain_of Tryd.func11 rfl rfl) (plain_of Tryd.func13 rfl rfl) und_int Tryd.underlying29 (by decide) (by decide) new_calls set_calls hB hv hl hI hr hf
theorem ei_up {w w' : World} (h : EI w) (O : Only (fun _ => False) w w') : EI w' := agc.keep w w' h (O.mono fun _ _ h => h.elim)
theorem full {w : World} {vs : Value} {B : Nat} {ver : Int} {bs : List UInt8} (hB : B ≤ w.heap.size) (hv : Oc w B vs bs) (hr : IntKind.i16.wrap ver = ver) (h : Full (r.m ver (flexOf (some 6) ver)).w bs) (hl : bs.length ≤ lim) (hI : EI w) : Calls Tryd.prog 6 #[.int .i64 ver, vs] w (FullP 5 bs w) :=
  have k := fullM h (by unfold lim at hl; unfold lim2; omega)
  (again hB hv hl hI hr k.1).mono fun e w' h => fullP_of (k.2 h)
theorem cut {w : World} {vs : Value} {B : Nat} {ver : Int} {q s : List UInt8} (hB : B ≤ w.heap.size) (hv : Oc w B vs q) (hr : IntKind.i16.wrap ver = ver) (h : Full (r.m ver (flexOf (some 6) ver)).w (q ++ s)) (hs : s ≠ []) (hl : q.length ≤ lim) (hI : EI w) : Calls Tryd.prog 6 #[.int .i64 ver, vs] w (CutP w) :=
  have k := cutM h hs hl
  (again hB hv hl hI hr k.1).mono fun e w' h => k.2 h
theorem any2 {ver : Int} {bs : List UInt8} (hr : IntKind.i16.wrap ver = ver) (hok : (r.m ver (flexOf (some 6) ver)).w.ok = true) (hl : bs.length ≤ 32767) :
    (∃ out, out.length ≤ bs.length ∧ Full (r.m ver (flexOf (some 6) ver)).w out ∧ ∀ {w : World} {vs : Value} {B : Nat}, B ≤ w.heap.size → Oc w B vs bs → EI w → Calls Tryd.prog 6 #[.int .i64 ver, vs] w (FullP 5 out w)) ∨
      ∀ {w : World} {vs : Value} {B : Nat}, B ≤ w.heap.size → Oc w B vs bs → EI w → Calls Tryd.prog 6 #[.int .i64 ver, vs] w (CutP w) := by
  have hf := (anyM hok hl).1
  have hll : bs.length ≤ lim := by unfold lim; omega
  rcases anyM2 hok hl with ⟨out, h1, h4, h5⟩ | h
  · exact .inl ⟨out, h1, h4, fun hB hv hI => (again hB hv hll hI hr hf).mono fun e w' h => h5 h⟩
  · exact .inr fun hB hv hI => (again hB hv hll hI hr hf).mono fun e w' hh => h hh
end Go.Proofs.YtajhickklhjemaaDoor.Kf.MListOffsetsResponse
