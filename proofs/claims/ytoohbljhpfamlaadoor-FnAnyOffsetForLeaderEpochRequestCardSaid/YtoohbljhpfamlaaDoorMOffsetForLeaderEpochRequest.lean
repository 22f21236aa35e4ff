/- OffsetForLeaderEpochRequest: its schema; what the thin package's functions over it come to. -/
import Derived.Test.YtoohbljhpfamlaaDoorMsgB
import Derived.Test.YtoohbljhpfamlaaDoorLawA
import Derived.Test.YtoohbljhpfamlaaDoorDfA
import Derived.Handy
import Derived.Test.YtoohbljhpfamlaaDoorTagC
import Derived.Test.YtoohbljhpfamlaaDoorTagG
import Derived.Test.YtoohbljhpfamlaaDoorKbT
namespace Go.Proofs.YtoohbljhpfamlaaDoor.Kf.MOffsetForLeaderEpochRequest
set_option linter.unusedVariables false
set_option linter.unusedSimpArgs false
set_option maxRecDepth 100000
open Go Go.RowKit

def r : R := .val (.ge 3) 1 1 21 (.prim .i32 102) (.arrS .all 2 2 52 48 [.string ⟨#[]⟩, .slice none 0 0, .map none] (.two 103 104) none 107 61 64 (.val .all 0 0 9 (.str2 false 108 109 110 111) (.arrS .all 1 1 62 24 [.int .i32 0, .int .i32 0, .int .i32 0, .map none] (.two 103 104) none 112 66 68 (.val .all 0 0 21 (.prim .i32 102) (.val (.ge 2) 1 1 21 (.prim .i32 102) (.val .all 2 2 21 (.prim .i32 102) (.tags 3 3 55 113 .done)))) (.tags 2 2 55 113 .done))) (.tags 3 3 55 113 .done))
def a : A := .val (.ge 3) 1 1 21 (.one (.prim .i32) 71) (.arrS .all 2 2 52 48 [.string ⟨#[]⟩, .slice none 0 0, .map none] none (.two false 72 73) 64 (.val .all 0 0 9 (.two (.str true false) (.str false false) 74 75) (.arrS .all 1 1 62 24 [.int .i32 0, .int .i32 0, .int .i32 0, .map none] none (.two false 72 73) 68 (.val .all 0 0 21 (.one (.prim .i32) 71) (.val (.ge 2) 1 1 21 (.one (.prim .i32) 71) (.val .all 2 2 21 (.one (.prim .i32) 71) (.tags 3 3 55 77 76 78 .done)))) (.tags 2 2 55 77 76 78 .done))) (.tags 3 3 55 77 76 78 .done))
noncomputable def bR : Code := (Tryd.f70.body).getD .skip
noncomputable def bW : Code := (Tryd.f33.body).getD .skip
noncomputable def bD : Code := (Tryd.f32.body).getD .skip
def M0 : Nat := (if ((some 4) : Option Int).isSome then 11 else 10) + r.k
def M1 : Nat := Nat.max ((if ((some 4) : Option Int).isSome then 7 else 6) + a.k) 7
theorem mwa : (fun ver => a.m ver (flexOf (some 4) ver)) = MwM r (some 4) := by
  funext ver
  unfold MwM
  generalize flexOf (some 4) ver = flex
  cases flex <;> rfl
theorem codeR : Tryd.f70.body = some (gRead gn 57 30 69 29 M0 none (some 4) r bR) := by kernel_rfl
theorem codeW : Tryd.f33.body = some (gWrite hn 57 29 M1 (some 4) a bW) := by kernel_rfl
theorem codeD : Tryd.f32.body = some (gRF 70 30 22 4 bD) := by kernel_rfl
theorem sz21 : (Tryd.prog.info? 21).map (·.size) = some 1 := by kernel_rfl
theorem fa57_1 : FieldAt Tryd.prog 57 1 1 21 1 := fieldAt_of Tryd.underlying57 rfl rfl rfl sz21 (by decide)
theorem sz52 : (Tryd.prog.info? 52).map (·.size) = some 1 := by kernel_rfl
theorem fa57_2 : FieldAt Tryd.prog 57 2 2 52 1 := fieldAt_of Tryd.underlying57 rfl rfl rfl sz52 (by decide)
theorem sl52 : Sl Tryd.prog 52 3 48 [.string ⟨#[]⟩, .slice none 0 0, .map none] := sl_of Tryd.underlying52 (by kernel_rfl) sz52 (by decide) rfl
theorem sz9 : (Tryd.prog.info? 9).map (·.size) = some 1 := by kernel_rfl
theorem fa64_0 : FieldAt Tryd.prog 64 0 0 9 1 := fieldAt_of Tryd.underlying64 rfl rfl rfl sz9 (by decide)
theorem sz62 : (Tryd.prog.info? 62).map (·.size) = some 1 := by kernel_rfl
theorem fa64_1 : FieldAt Tryd.prog 64 1 1 62 1 := fieldAt_of Tryd.underlying64 rfl rfl rfl sz62 (by decide)
theorem sl62 : Sl Tryd.prog 62 4 24 [.int .i32 0, .int .i32 0, .int .i32 0, .map none] := sl_of Tryd.underlying62 (by kernel_rfl) sz62 (by decide) rfl
theorem fa68_0 : FieldAt Tryd.prog 68 0 0 21 1 := fieldAt_of Tryd.underlying68 rfl rfl rfl sz21 (by decide)
theorem fa68_1 : FieldAt Tryd.prog 68 1 1 21 1 := fieldAt_of Tryd.underlying68 rfl rfl rfl sz21 (by decide)
theorem fa68_2 : FieldAt Tryd.prog 68 2 2 21 1 := fieldAt_of Tryd.underlying68 rfl rfl rfl sz21 (by decide)
theorem sz55 : (Tryd.prog.info? 55).map (·.size) = some 1 := by kernel_rfl
theorem fa68_3 : FieldAt Tryd.prog 68 3 3 55 1 := fieldAt_of Tryd.underlying68 rfl rfl rfl sz55 (by decide)
def dl_OffsetForLeaderEpochRequestTopicPartition : List DS := [⟨1, 1, 21, .int .i32 (-1)⟩]
noncomputable def bDf_OffsetForLeaderEpochRequestTopicPartition : Code := (Tryd.f112.body).getD .skip
theorem def_OffsetForLeaderEpochRequestTopicPartition : DefC Tryd.prog 112 4 [] :=
  def_set (T := 68) (l := dl_OffsetForLeaderEpochRequestTopicPartition) Tryd.func112 bDf_OffsetForLeaderEpochRequestTopicPartition (by kernel_rfl) Tryd.results112 Tryd.ntmps112 (by decide) rfl (fun x hx => by
    simp only [dl_OffsetForLeaderEpochRequestTopicPartition, List.mem_cons, List.not_mem_nil, or_false] at hx
    subst hx; exact ⟨fa68_1, rfl, rfl, by decide, by decide⟩)
theorem fa64_2 : FieldAt Tryd.prog 64 2 2 55 1 := fieldAt_of Tryd.underlying64 rfl rfl rfl sz55 (by decide)
theorem fa57_3 : FieldAt Tryd.prog 57 3 3 55 1 := fieldAt_of Tryd.underlying57 rfl rfl rfl sz55 (by decide)
theorem one21 : One Tryd.prog 21 := one_of Tryd.underlying21 rfl sz21
theorem one9 : One Tryd.prog 9 := one_of Tryd.underlying9 rfl sz9
theorem sz29 : (Tryd.prog.info? 29).map (·.size) = some 1 := by kernel_rfl
theorem fa57_0 : FieldAt Tryd.prog 57 0 0 29 1 := fieldAt_of Tryd.underlying57 rfl rfl rfl sz29 (by decide)
def dl_OffsetForLeaderEpochRequest : List DS := [⟨1, 1, 21, .int .i32 (-2)⟩]
noncomputable def bDf_OffsetForLeaderEpochRequest : Code := (Tryd.f69.body).getD .skip
theorem def_OffsetForLeaderEpochRequest : DefC Tryd.prog 69 4 [0, 2] :=
  def_set (T := 57) (l := dl_OffsetForLeaderEpochRequest) Tryd.func69 bDf_OffsetForLeaderEpochRequest (by kernel_rfl) Tryd.results69 Tryd.ntmps69 (by decide) rfl (fun x hx => by
    simp only [dl_OffsetForLeaderEpochRequest, List.mem_cons, List.not_mem_nil, or_false] at hx
    subst hx; exact ⟨fa57_1, rfl, rfl, by decide, by decide⟩)
theorem okR : r.ok Tryd.prog true 57 1 4 := ⟨by decide, NumC.rd (by decide) rd_int32, fun flex => fa57_1, ⟨by decide, ⟨rfl, rd_calen, rd_alen⟩, fa57_2, sl52, by decide, (def_skip Tryd.func107 rfl rfl rfl), nils_ok rfl, ⟨by decide, ⟨rfl, rd_cstring, rd_string⟩, fun flex => fa64_0, ⟨by decide, ⟨rfl, rd_calen, rd_alen⟩, fa64_1, sl62, by decide, def_OffsetForLeaderEpochRequestTopicPartition, nils_ok rfl, ⟨by decide, NumC.rd (by decide) rd_int32, fun flex => fa68_0, ⟨by decide, NumC.rd (by decide) rd_int32, fun flex => fa68_1, ⟨by decide, NumC.rd (by decide) rd_int32, fun flex => fa68_2, ⟨by decide, rfl, rd_tags, fa68_3, done_ok (by decide)⟩⟩⟩⟩, ⟨by decide, rfl, rd_tags, fa64_2, done_ok (by decide)⟩⟩⟩, ⟨by decide, rfl, rd_tags, fa57_3, done_ok (by decide)⟩⟩⟩
theorem okW : a.ok Tryd.prog 5 true true 57 := ⟨app_i32C, fun flex => ⟨fa57_1, (.inl ⟨one21, rfl, fun _ _ => rfl⟩)⟩, ⟨rfl, ⟨rfl, len_compact, len_plain⟩, fa57_2, sl52, ⟨⟨rfl, app_cstrC, app_strC⟩, fun flex => by cases flex <;> exact ⟨fa64_0, (.inl ⟨one9, rfl, fun _ _ => rfl⟩)⟩, ⟨rfl, ⟨rfl, len_compact, len_plain⟩, fa64_1, sl62, ⟨app_i32C, fun flex => ⟨fa68_0, (.inl ⟨one21, rfl, fun _ _ => rfl⟩)⟩, ⟨app_i32C, fun flex => ⟨fa68_1, (.inl ⟨one21, rfl, fun _ _ => rfl⟩)⟩, ⟨app_i32C, fun flex => ⟨fa68_2, (.inl ⟨one21, rfl, fun _ _ => rfl⟩)⟩, ⟨rfl, fa68_3, tags_len, app_uvarint, tags_each, trivial⟩⟩⟩⟩, ⟨rfl, fa64_2, tags_len, app_uvarint, tags_each, trivial⟩⟩⟩, ⟨rfl, fa57_3, tags_len, app_uvarint, tags_each, trivial⟩⟩⟩
theorem msgR : MsgR Tryd.prog gn 57 30 69 29 M0 Tryd.f70.ntmps 4 4 none (some 4) r EI :=
  ⟨rd_ok, rd_completeE, und_i32, rdrT, one_i16, fa57_0, def_OffsetForLeaderEpochRequest, fun F h => (by cases h), okR, by decide, by decide, by decide, rfl, by decide⟩
theorem msgW : MsgW Tryd.prog hn true 57 29 M1 Tryd.f33.ntmps (some 4) a := ⟨und_int, und_u32, one_i16, fa57_0, okW, rfl, by decide, by decide⟩
theorem plain_of {F : Nat} {fn : Func} (hf : Tryd.prog.funcs[F]? = some fn) (hb : fn.body.isNone = false) (hn : (fn.name == "runtime.NumGoroutine") = false) : Plain Tryd.prog F := ⟨fn, hf, hb, hn⟩
theorem agc : AgC Tryd.prog 5 22 35 32 33 1 EI none (some 4) r (MwM r (some 4)) vlM 4 :=
  mwa ▸ AgC.mk' (sl := 22) (bo := 4) msgR msgW Tryd.func70 bR codeR Tryd.results70 rfl (plain_of Tryd.func70 rfl rfl) Tryd.func32 bD codeD Tryd.results32 Tryd.ntmps32 (plain_of Tryd.func32 rfl rfl)
    Tryd.func33 bW codeW Tryd.results33 rfl (plain_of Tryd.func33 rfl rfl) Tryd.underlying22 info_u8 Tryd.underlying35 (errI_keep (L := 1 + 1) (Nat.lt_succ_self _)) (fun w h => h.2) vlM
    (fun w D b lo hi ver x bs bs0 ver0 hv hc hH => by have e : a.m ver (flexOf (some 4) ver) = MwM r (some 4) ver := congrFun mwa ver; rw [e]; exact hH)
noncomputable def bP : Code := (Tryd.f29.body).getD .skip
noncomputable def bS : Code := (Tryd.f31.body).getD .skip
noncomputable def bV : Code := (Tryd.f30.body).getD .skip
noncomputable def bX : Code := (Tryd.f11.body).getD .skip
theorem codeP : Tryd.f29.body = some (gNP 69 57 30 bP) := by kernel_rfl
theorem codeS : Tryd.f31.body = some (gSV 57 29 bS) := by kernel_rfl
theorem codeV : Tryd.f30.body = some (gK (.int .i16 0) (.int .i16 4) bV) := by kernel_rfl
theorem codeX : Tryd.f11.body = some (gMx 29 30 30 29 3 bX) := by kernel_rfl
theorem alc : Alc Tryd.prog 57 #[.int .i16 0, .int .i32 0, .slice none 0 0, .map none] := fun o a w h => by
  obtain ⟨d, op, t, p, af, g⟩ := o
  simp only at h
  subst h
  kernel_rfl
theorem new_calls (w : World) : Calls Tryd.prog 29 #[] w fun e w' => e = .returned (.pointer (some ⟨w.heap.size, 0, none⟩)) ∧ Only (fun _ => False) w w' ∧ Blk w' w.heap.size 4 ∧ ∀ q ∈ r.nils, w'.cell? ⟨w.heap.size, q, none⟩ = some (.slice none 0 0) :=
  (NP_calls (ks := 0 :: r.nils) Tryd.func29 bP codeP Tryd.results29 Tryd.ntmps29 alc rfl def_OffsetForLeaderEpochRequest).mono fun e w' h => ⟨h.1, h.2.1, h.2.2.1, fun q hq => (h.2.2.2 q (List.mem_cons_of_mem _ hq)).trans (nilsZ rfl q hq)⟩
theorem set_calls (w : World) (b : Nat) (n : Int) (hb : Blk w b 4) : Calls Tryd.prog 31 #[.pointer (some ⟨b, 0, none⟩), .int .i16 n] w fun e w' => e = .returned (.tuple #[]) ∧ Only (· = b) w w' ∧ Upd b 0 1 w w' ∧ w'.cell? ⟨b, 0, none⟩ = some (.int .i16 n) :=
  SV_calls Tryd.func31 bS codeS Tryd.results31 Tryd.ntmps31 fa57_0 hb (by decide)
theorem max_calls (w : World) : Calls Tryd.prog 11 #[] w fun e w' => e = .returned (.int .i64 4) ∧ Only (fun _ => False) w w' :=
  Mx_calls Tryd.func11 bX codeX Tryd.results11 Tryd.ntmps11 und_int Tryd.underlying29 (plain_of Tryd.func29 rfl rfl) (plain_of Tryd.func30 rfl rfl) ((new_calls w).mono fun e w' h => ⟨_, h.1, h.2.1⟩) fun v w' => K_calls Tryd.func30 bV codeV Tryd.results30 Tryd.ntmps30
noncomputable def bA : Code := (Tryd.f12.body).getD .skip
theorem codeA : Tryd.f12.body = some (gAgM 29 31 32 33 30 22 35 35 3 29 bA) := by kernel_rfl
/-- What impl.AgainOffsetForLeaderEpochRequest comes to. -/
theorem again {w : World} {ver : Int} {vs : Value} {B : Nat} {bs : List UInt8} (hB : B ≤ w.heap.size) (hv : Oc w B vs bs) (hl : bs.length ≤ lim) (hI : EI w) (hr : IntKind.i16.wrap ver = ver) (hf : Fits none (some 4) ver r (MwM r (some 4)) vlM bs) :
    Calls Tryd.prog 12 #[.int .i64 ver, vs] w (AgQ 5 none (some 4) ver r (MwM r (some 4)) vlM w bs) :=
  AgM_calls agc Tryd.func12 bA codeA Tryd.results12 Tryd.ntmps12 (plain_of Tryd.func29 rfl rfl) (plain_of Tryd.func31 rfl rfl) und_int Tryd.underlying29 (by decide) (by decide) new_calls set_calls hB hv hl hI hr hf
theorem ei_up {w w' : World} (h : EI w) (O : Only (fun _ => False) w w') : EI w' := agc.keep w w' h (O.mono fun _ _ h => h.elim)
theorem full {w : World} {vs : Value} {B : Nat} {ver : Int} {bs : List UInt8} (hB : B ≤ w.heap.size) (hv : Oc w B vs bs) (hr : IntKind.i16.wrap ver = ver) (h : Full (r.m ver (flexOf (some 4) ver)).w bs) (hl : bs.length ≤ lim) (hI : EI w) : Calls Tryd.prog 12 #[.int .i64 ver, vs] w (FullP 5 bs w) :=
  have k := fullM h (by unfold lim at hl; unfold lim2; omega)
  (again hB hv hl hI hr k.1).mono fun e w' h => fullP_of (k.2 h)
theorem cut {w : World} {vs : Value} {B : Nat} {ver : Int} {q s : List UInt8} (hB : B ≤ w.heap.size) (hv : Oc w B vs q) (hr : IntKind.i16.wrap ver = ver) (h : Full (r.m ver (flexOf (some 4) ver)).w (q ++ s)) (hs : s ≠ []) (hl : q.length ≤ lim) (hI : EI w) : Calls Tryd.prog 12 #[.int .i64 ver, vs] w (CutP w) :=
  have k := cutM h hs hl
  (again hB hv hl hI hr k.1).mono fun e w' h => k.2 h
theorem any2 {ver : Int} {bs : List UInt8} (hr : IntKind.i16.wrap ver = ver) (hok : (r.m ver (flexOf (some 4) ver)).w.ok = true) (hl : bs.length ≤ 32767) :
    (∃ out, out.length ≤ bs.length ∧ Full (r.m ver (flexOf (some 4) ver)).w out ∧ ∀ {w : World} {vs : Value} {B : Nat}, B ≤ w.heap.size → Oc w B vs bs → EI w → Calls Tryd.prog 12 #[.int .i64 ver, vs] w (FullP 5 out w)) ∨
      ∀ {w : World} {vs : Value} {B : Nat}, B ≤ w.heap.size → Oc w B vs bs → EI w → Calls Tryd.prog 12 #[.int .i64 ver, vs] w (CutP w) := by
  have hf := (anyM hok hl).1
  have hll : bs.length ≤ lim := by unfold lim; omega
  rcases anyM2 hok hl with ⟨out, h1, h4, h5⟩ | h
  · exact .inl ⟨out, h1, h4, fun hB hv hI => (again hB hv hll hI hr hf).mono fun e w' h => h5 h⟩
  · exact .inr fun hB hv hI => (again hB hv hll hI hr hf).mono fun e w' hh => h hh
end Go.Proofs.YtoohbljhpfamlaaDoor.Kf.MOffsetForLeaderEpochRequest
