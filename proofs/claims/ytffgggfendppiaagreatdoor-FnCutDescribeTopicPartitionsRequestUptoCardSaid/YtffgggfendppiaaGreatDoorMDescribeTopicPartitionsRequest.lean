/- DescribeTopicPartitionsRequest: its schema; what the thin package's functions over it come to. -/
import Derived.Test.YtffgggfendppiaaGreatDoorMsgB
import Derived.Test.YtffgggfendppiaaGreatDoorLawA
import Derived.Test.YtffgggfendppiaaGreatDoorDfA
import Derived.Handy
import Derived.Test.YtffgggfendppiaaGreatDoorTagC
import Derived.Test.YtffgggfendppiaaGreatDoorTagG
import Derived.Test.YtffgggfendppiaaGreatDoorKbT
namespace Go.Proofs.YtffgggfendppiaaGreatDoor.Kf.MDescribeTopicPartitionsRequest
set_option linter.unusedVariables false
set_option linter.unusedSimpArgs false
set_option maxRecDepth 100000
open Go Go.RowKit

def r : R := .arrS .all 1 1 125 24 [.string ⟨#[]⟩, .map none] (.two 117 118) none 145 129 131 (.val .all 0 0 9 (.str2 false 128 129 130 131) (.tags 1 1 72 132 .done)) (.val .all 2 2 21 (.prim .i32 116) (.optS .all 3 3 126 88 127 146 133 [.string ⟨#[]⟩, .int .i32 0, .map none] (.val .all 0 0 9 (.str2 false 128 129 130 131) (.val .all 1 1 21 (.prim .i32 116) (.tags 2 2 72 132 .done))) (.tags 4 4 72 132 .done)))
def a : A := .arrS .all 1 1 125 24 [.string ⟨#[]⟩, .map none] none (.two false 82 83) 131 (.val .all 0 0 9 (.two (.str true false) (.str false false) 88 89) (.tags 1 1 72 91 90 92 .done)) (.val .all 2 2 21 (.one (.prim .i32) 81) (.optS .all 3 3 126 22 133 3 (.val .all 0 0 9 (.two (.str true false) (.str false false) 88 89) (.val .all 1 1 21 (.one (.prim .i32) 81) (.tags 2 2 72 91 90 92 .done))) (.tags 4 4 72 91 90 92 .done)))
noncomputable def bR : Code := (Tryz.f101.body).getD .skip
noncomputable def bW : Code := (Tryz.f57.body).getD .skip
noncomputable def bD : Code := (Tryz.f56.body).getD .skip
def M0 : Nat := (if ((some 0) : Option Int).isSome then 11 else 10) + r.k
def M1 : Nat := Nat.max ((if ((some 0) : Option Int).isSome then 7 else 6) + a.k) 7
theorem mwa : (fun ver => a.m ver (flexOf (some 0) ver)) = MwM r (some 0) := by
  funext ver
  unfold MwM
  generalize flexOf (some 0) ver = flex
  cases flex <;> rfl
theorem codeR : Tryz.f101.body = some (gRead gn 128 59 100 42 M0 none (some 0) r bR) := by kernel_rfl
theorem codeW : Tryz.f57.body = some (gWrite hn 128 42 M1 (some 0) a bW) := by kernel_rfl
theorem codeD : Tryz.f56.body = some (gRF 101 59 22 4 bD) := by kernel_rfl
theorem sz125 : (Tryz.prog.info? 125).map (·.size) = some 1 := by kernel_rfl
theorem fa128_1 : FieldAt Tryz.prog 128 1 1 125 1 := fieldAt_of Tryz.underlying128 rfl rfl rfl sz125 (by decide)
theorem sl125 : Sl Tryz.prog 125 2 24 [.string ⟨#[]⟩, .map none] := sl_of Tryz.underlying125 (by kernel_rfl) sz125 (by decide) rfl
theorem sz9 : (Tryz.prog.info? 9).map (·.size) = some 1 := by kernel_rfl
theorem fa131_0 : FieldAt Tryz.prog 131 0 0 9 1 := fieldAt_of Tryz.underlying131 rfl rfl rfl sz9 (by decide)
theorem sz72 : (Tryz.prog.info? 72).map (·.size) = some 1 := by kernel_rfl
theorem fa131_1 : FieldAt Tryz.prog 131 1 1 72 1 := fieldAt_of Tryz.underlying131 rfl rfl rfl sz72 (by decide)
theorem sz21 : (Tryz.prog.info? 21).map (·.size) = some 1 := by kernel_rfl
theorem fa128_2 : FieldAt Tryz.prog 128 2 2 21 1 := fieldAt_of Tryz.underlying128 rfl rfl rfl sz21 (by decide)
theorem sz126 : (Tryz.prog.info? 126).map (·.size) = some 1 := by kernel_rfl
theorem fa128_3 : FieldAt Tryz.prog 128 3 3 126 1 := fieldAt_of Tryz.underlying128 rfl rfl rfl sz126 (by decide)
theorem one126 : One Tryz.prog 126 := one_of Tryz.underlying126 rfl sz126
theorem alc133 : Alc Tryz.prog 133 #[.string ⟨#[]⟩, .int .i32 0, .map none] := fun o a w h => by
  obtain ⟨d, op, t, p, af, g⟩ := o
  simp only at h
  subst h
  kernel_rfl
theorem fa133_0 : FieldAt Tryz.prog 133 0 0 9 1 := fieldAt_of Tryz.underlying133 rfl rfl rfl sz9 (by decide)
theorem fa133_1 : FieldAt Tryz.prog 133 1 1 21 1 := fieldAt_of Tryz.underlying133 rfl rfl rfl sz21 (by decide)
theorem fa133_2 : FieldAt Tryz.prog 133 2 2 72 1 := fieldAt_of Tryz.underlying133 rfl rfl rfl sz72 (by decide)
theorem fa128_4 : FieldAt Tryz.prog 128 4 4 72 1 := fieldAt_of Tryz.underlying128 rfl rfl rfl sz72 (by decide)
theorem one9 : One Tryz.prog 9 := one_of Tryz.underlying9 rfl sz9
theorem one21 : One Tryz.prog 21 := one_of Tryz.underlying21 rfl sz21
theorem sz42 : (Tryz.prog.info? 42).map (·.size) = some 1 := by kernel_rfl
theorem fa128_0 : FieldAt Tryz.prog 128 0 0 42 1 := fieldAt_of Tryz.underlying128 rfl rfl rfl sz42 (by decide)
def dl_DescribeTopicPartitionsRequest : List DI := [.set ⟨2, 2, 21, .int .i32 (2000)⟩, .adr 3 3 126 1 0 []]
noncomputable def bDf_DescribeTopicPartitionsRequest : Code := (Tryz.f100.body).getD .skip
theorem def_DescribeTopicPartitionsRequest : DefC Tryz.prog 100 5 [0, 1, 3] :=
  def_set (T := 128) (l := dl_DescribeTopicPartitionsRequest) Tryz.func100 bDf_DescribeTopicPartitionsRequest (by kernel_rfl) Tryz.results100 Tryz.ntmps100 (by decide) rfl (fun x hx => by
    simp only [dl_DescribeTopicPartitionsRequest, List.mem_cons, List.not_mem_nil, or_false] at hx
    rcases hx with rfl | rfl
    · exact ⟨fa128_2, rfl, rfl, by decide, by decide⟩
    · exact ⟨fa128_3, fun x hx => by cases hx⟩)
theorem okR : r.ok Tryz.prog true 128 1 5 := ⟨by decide, ⟨rfl, rd_calen, rd_alen⟩, fa128_1, sl125, by decide, (def_skip Tryz.func145 rfl rfl rfl), nils_ok rfl, ⟨by decide, ⟨rfl, rd_cstring, rd_string⟩, fun flex => fa131_0, ⟨by decide, rfl, rd_tags, fa131_1, done_ok (by decide)⟩⟩, ⟨by decide, NumC.rd (by decide) rd_int32, fun flex => fa128_2, ⟨by decide, i8C rd_int8, fa128_3, one126, alc133, (def_skip Tryz.func146 rfl rfl rfl), nils_okA rfl, ⟨by decide, ⟨rfl, rd_cstring, rd_string⟩, fun flex => fa133_0, ⟨by decide, NumC.rd (by decide) rd_int32, fun flex => fa133_1, ⟨by decide, rfl, rd_tags, fa133_2, done_ok (by decide)⟩⟩⟩, ⟨by decide, rfl, rd_tags, fa128_4, done_ok (by decide)⟩⟩⟩⟩
theorem okW : a.ok Tryz.prog 5 true true 128 := ⟨rfl, ⟨rfl, len_compact, len_plain⟩, fa128_1, sl125, ⟨⟨rfl, app_cstrC, app_strC⟩, fun flex => by cases flex <;> exact ⟨fa131_0, (.inl ⟨one9, rfl, fun _ _ => rfl⟩)⟩, ⟨rfl, fa131_1, tags_len, app_uvarint, tags_each, trivial⟩⟩, ⟨app_i32C, fun flex => ⟨fa128_2, (.inl ⟨one21, rfl, fun _ _ => rfl⟩)⟩, ⟨fa128_3, one126, by kernel_rfl, ⟨Tryz.underlying22, info_u8⟩, ⟨⟨rfl, app_cstrC, app_strC⟩, fun flex => by cases flex <;> exact ⟨fa133_0, (.inl ⟨one9, rfl, fun _ _ => rfl⟩)⟩, ⟨app_i32C, fun flex => ⟨fa133_1, (.inl ⟨one21, rfl, fun _ _ => rfl⟩)⟩, ⟨rfl, fa133_2, tags_len, app_uvarint, tags_each, trivial⟩⟩⟩, ⟨rfl, fa128_4, tags_len, app_uvarint, tags_each, trivial⟩⟩⟩⟩
theorem msgR : MsgR Tryz.prog gn 128 59 100 42 M0 Tryz.f101.ntmps 5 5 none (some 0) r EI :=
  ⟨rd_ok, rd_completeE, und_i32, rdrT, one_i16, fa128_0, def_DescribeTopicPartitionsRequest, fun F h => (by cases h), okR, by decide, by decide, by decide, rfl, by decide⟩
theorem msgW : MsgW Tryz.prog hn true 128 42 M1 Tryz.f57.ntmps (some 0) a := ⟨und_int, und_u32, one_i16, fa128_0, okW, rfl, by decide, by decide⟩
theorem plain_of {F : Nat} {fn : Func} (hf : Tryz.prog.funcs[F]? = some fn) (hb : fn.body.isNone = false) (hn : (fn.name == "runtime.NumGoroutine") = false) : Plain Tryz.prog F := ⟨fn, hf, hb, hn⟩
theorem agc : AgC Tryz.prog 5 22 52 56 57 1 EI none (some 0) r (MwM r (some 0)) vlM 5 :=
  mwa ▸ AgC.mk' (sl := 22) (bo := 4) msgR msgW Tryz.func101 bR codeR Tryz.results101 rfl (plain_of Tryz.func101 rfl rfl) Tryz.func56 bD codeD Tryz.results56 Tryz.ntmps56 (plain_of Tryz.func56 rfl rfl)
    Tryz.func57 bW codeW Tryz.results57 rfl (plain_of Tryz.func57 rfl rfl) Tryz.underlying22 info_u8 Tryz.underlying52 (errI_keep (L := 1 + 1) (Nat.lt_succ_self _)) (fun w h => h.2) vlM
    (fun w D b lo hi ver x bs bs0 ver0 hv hc hH => by have e : a.m ver (flexOf (some 0) ver) = MwM r (some 0) ver := congrFun mwa ver; rw [e]; exact hH)
noncomputable def bP : Code := (Tryz.f51.body).getD .skip
noncomputable def bS : Code := (Tryz.f55.body).getD .skip
noncomputable def bV : Code := (Tryz.f52.body).getD .skip
noncomputable def bX : Code := (Tryz.f22.body).getD .skip
theorem codeP : Tryz.f51.body = some (gNP 100 128 59 bP) := by kernel_rfl
theorem codeS : Tryz.f55.body = some (gSV 128 42 bS) := by kernel_rfl
theorem codeV : Tryz.f52.body = some (gK (.int .i16 0) (.int .i16 0) bV) := by kernel_rfl
theorem codeX : Tryz.f22.body = some (gMx 51 52 59 42 3 bX) := by kernel_rfl
theorem alc : Alc Tryz.prog 128 #[.int .i16 0, .slice none 0 0, .int .i32 0, .pointer none, .map none] := fun o a w h => by
  obtain ⟨d, op, t, p, af, g⟩ := o
  simp only at h
  subst h
  kernel_rfl
theorem new_calls (w : World) : Calls Tryz.prog 51 #[] w fun e w' => e = .returned (.pointer (some ⟨w.heap.size, 0, none⟩)) ∧ Only (fun _ => False) w w' ∧ Blk w' w.heap.size 5 ∧ ∀ q ∈ r.nils, w'.cell? ⟨w.heap.size, q.1, none⟩ = some (nilV q.2) :=
  (NP_calls (ks := 0 :: r.nils.map Prod.fst) Tryz.func51 bP codeP Tryz.results51 Tryz.ntmps51 alc rfl def_DescribeTopicPartitionsRequest).mono fun e w' h => ⟨h.1, h.2.1, h.2.2.1, fun q hq => (h.2.2.2 q.1 (List.mem_cons_of_mem _ (List.mem_map_of_mem hq))).trans (nilsZ rfl q hq)⟩
theorem set_calls (w : World) (b : Nat) (n : Int) (hb : Blk w b 5) : Calls Tryz.prog 55 #[.pointer (some ⟨b, 0, none⟩), .int .i16 n] w fun e w' => e = .returned (.tuple #[]) ∧ Only (· = b) w w' ∧ Upd b 0 1 w w' ∧ w'.cell? ⟨b, 0, none⟩ = some (.int .i16 n) :=
  SV_calls Tryz.func55 bS codeS Tryz.results55 Tryz.ntmps55 fa128_0 hb (by decide)
theorem max_calls (w : World) : Calls Tryz.prog 22 #[] w fun e w' => e = .returned (.int .i64 0) ∧ Only (fun _ => False) w w' :=
  Mx_calls Tryz.func22 bX codeX Tryz.results22 Tryz.ntmps22 und_int Tryz.underlying42 (plain_of Tryz.func51 rfl rfl) (plain_of Tryz.func52 rfl rfl) ((new_calls w).mono fun e w' h => ⟨_, h.1, h.2.1⟩) fun v w' => K_calls Tryz.func52 bV codeV Tryz.results52 Tryz.ntmps52
noncomputable def bA : Code := (Tryz.f24.body).getD .skip
theorem codeA : Tryz.f24.body = some (gAgM 51 55 56 57 59 22 52 52 3 42 bA) := by kernel_rfl
/-- What impl.AgainDescribeTopicPartitionsRequest comes to. -/
theorem again {w : World} {ver : Int} {vs : Value} {B : Nat} {bs : List UInt8} (hB : B ≤ w.heap.size) (hv : Oc w B vs bs) (hl : bs.length ≤ lim) (hI : EI w) (hr : IntKind.i16.wrap ver = ver) (hf : Fits none (some 0) ver r (MwM r (some 0)) vlM bs) :
    Calls Tryz.prog 24 #[.int .i64 ver, vs] w (AgQ 5 none (some 0) ver r (MwM r (some 0)) vlM w bs) :=
  AgM_calls agc Tryz.func24 bA codeA Tryz.results24 Tryz.ntmps24 (plain_of Tryz.func51 rfl rfl) (plain_of Tryz.func55 rfl rfl) und_int Tryz.underlying42 (by decide) (by decide) new_calls set_calls hB hv hl hI hr hf
theorem ei_up {w w' : World} (h : EI w) (O : Only (fun _ => False) w w') : EI w' := agc.keep w w' h (O.mono fun _ _ h => h.elim)
theorem full {w : World} {vs : Value} {B : Nat} {ver : Int} {bs : List UInt8} (hB : B ≤ w.heap.size) (hv : Oc w B vs bs) (hr : IntKind.i16.wrap ver = ver) (h : Full (r.m ver (flexOf (some 0) ver)).w bs) (hl : bs.length ≤ lim) (hI : EI w) : Calls Tryz.prog 24 #[.int .i64 ver, vs] w (FullP 5 bs w) :=
  have k := fullM h (by unfold lim at hl; unfold lim2; omega)
  (again hB hv hl hI hr k.1).mono fun e w' h => fullP_of (k.2 h)
theorem cut {w : World} {vs : Value} {B : Nat} {ver : Int} {q s : List UInt8} (hB : B ≤ w.heap.size) (hv : Oc w B vs q) (hr : IntKind.i16.wrap ver = ver) (h : Full (r.m ver (flexOf (some 0) ver)).w (q ++ s)) (hs : s ≠ []) (hl : q.length ≤ lim) (hI : EI w) : Calls Tryz.prog 24 #[.int .i64 ver, vs] w (CutP w) :=
  have k := cutM h hs hl
  (again hB hv hl hI hr k.1).mono fun e w' h => k.2 h
theorem any2 {ver : Int} {bs : List UInt8} (hr : IntKind.i16.wrap ver = ver) (hok : (r.m ver (flexOf (some 0) ver)).w.ok = true) (hl : bs.length ≤ 32767) :
    (∃ out, out.length ≤ bs.length ∧ Full (r.m ver (flexOf (some 0) ver)).w out ∧ ∀ {w : World} {vs : Value} {B : Nat}, B ≤ w.heap.size → Oc w B vs bs → EI w → Calls Tryz.prog 24 #[.int .i64 ver, vs] w (FullP 5 out w)) ∨
      ∀ {w : World} {vs : Value} {B : Nat}, B ≤ w.heap.size → Oc w B vs bs → EI w → Calls Tryz.prog 24 #[.int .i64 ver, vs] w (CutP w) := by
  have hf := (anyM hok hl).1
  have hll : bs.length ≤ lim := by unfold lim; omega
  rcases anyM2 hok hl with ⟨out, h1, h4, h5⟩ | h
  · exact .inl ⟨out, h1, h4, fun hB hv hI => (again hB hv hll hI hr hf).mono fun e w' h => h5 h⟩
  · exact .inr fun hB hv hI => (again hB hv hll hI hr hf).mono fun e w' hh => h hh
end Go.Proofs.YtffgggfendppiaaGreatDoor.Kf.MDescribeTopicPartitionsRequest
