/- VoteRequest: its schema; what the thin package's functions over it come to. -/
import Derived.Test.YtffgggfendppiaaGreatDoorMsgB
import Derived.Test.YtffgggfendppiaaGreatDoorLawA
import Derived.Test.YtffgggfendppiaaGreatDoorDfA
import Derived.Handy
import Derived.Test.YtffgggfendppiaaGreatDoorTagC
import Derived.Test.YtffgggfendppiaaGreatDoorTagG
import Derived.Test.YtffgggfendppiaaGreatDoorKbT
import Derived.Test.YtffgggfendppiaaGreatDoorKbV
namespace Go.Proofs.YtffgggfendppiaaGreatDoor.Kf.MVoteRequest
set_option linter.unusedVariables false
set_option linter.unusedSimpArgs false
set_option maxRecDepth 100000
open Go Go.RowKit

def r : R := .val .all 1 1 87 (.str3 true 123 124 125 126) (.val (.ge 1) 2 2 21 (.prim .i32 116) (.arrS .all 3 3 134 48 [.string ⟨#[]⟩, .slice none 0 0, .map none] (.two 117 118) none 147 137 140 (.val .all 0 0 9 (.str2 false 128 129 130 131) (.arrS .all 1 1 138 72 [.int .i32 0, .int .i32 0, .int .i32 0, .int .u8 0, .int .u8 0, .int .u8 0, .int .u8 0, .int .u8 0, .int .u8 0, .int .u8 0, .int .u8 0, .int .u8 0, .int .u8 0, .int .u8 0, .int .u8 0, .int .u8 0, .int .u8 0, .int .u8 0, .int .u8 0, .int .u8 0, .int .u8 0, .int .u8 0, .int .u8 0, .int .u8 0, .int .u8 0, .int .u8 0, .int .u8 0, .int .u8 0, .int .u8 0, .int .u8 0, .int .u8 0, .int .u8 0, .int .u8 0, .int .u8 0, .int .u8 0, .int .i32 0, .int .i64 0, .bool false, .map none] (.two 117 118) none 148 141 144 (.val .all 0 0 21 (.prim .i32 116) (.val .all 1 1 21 (.prim .i32 116) (.val .all 2 2 21 (.prim .i32 116) (.val (.ge 1) 3 3 142 (.uid 149 142) (.val (.ge 1) 4 19 142 (.uid 149 142) (.val .all 5 35 21 (.prim .i32 116) (.val .all 6 36 2 (.prim .i64 150) (.val (.ge 2) 7 37 4 (.prim .bool 140) (.tags 8 38 72 132 .done))))))))) (.tags 2 2 72 132 .done))) (.tags 4 4 72 132 .done)))
def a : A := .val .all 1 1 87 (.two (.str true true) (.str false true) 85 86) (.val (.ge 1) 2 2 21 (.one (.prim .i32) 81) (.arrS .all 3 3 134 48 [.string ⟨#[]⟩, .slice none 0 0, .map none] none (.two false 82 83) 140 (.val .all 0 0 9 (.two (.str true false) (.str false false) 88 89) (.arrS .all 1 1 138 72 [.int .i32 0, .int .i32 0, .int .i32 0, .int .u8 0, .int .u8 0, .int .u8 0, .int .u8 0, .int .u8 0, .int .u8 0, .int .u8 0, .int .u8 0, .int .u8 0, .int .u8 0, .int .u8 0, .int .u8 0, .int .u8 0, .int .u8 0, .int .u8 0, .int .u8 0, .int .u8 0, .int .u8 0, .int .u8 0, .int .u8 0, .int .u8 0, .int .u8 0, .int .u8 0, .int .u8 0, .int .u8 0, .int .u8 0, .int .u8 0, .int .u8 0, .int .u8 0, .int .u8 0, .int .u8 0, .int .u8 0, .int .i32 0, .int .i64 0, .bool false, .map none] none (.two false 82 83) 144 (.val .all 0 0 21 (.one (.prim .i32) 81) (.val .all 1 1 21 (.one (.prim .i32) 81) (.val .all 2 2 21 (.one (.prim .i32) 81) (.val (.ge 1) 3 3 142 (.uid 105 142) (.val (.ge 1) 4 19 142 (.uid 105 142) (.val .all 5 35 21 (.one (.prim .i32) 81) (.val .all 6 36 2 (.one (.prim .i64) 106) (.val (.ge 2) 7 37 4 (.one (.prim .bool) 96) (.tags 8 38 72 91 90 92 .done))))))))) (.tags 2 2 72 91 90 92 .done))) (.tags 4 4 72 91 90 92 .done)))
noncomputable def bR : Code := (Tryz.f104.body).getD .skip
noncomputable def bW : Code := (Tryz.f63.body).getD .skip
noncomputable def bD : Code := (Tryz.f62.body).getD .skip
def M0 : Nat := (if ((some 0) : Option Int).isSome then 11 else 10) + r.k
def M1 : Nat := Nat.max ((if ((some 0) : Option Int).isSome then 7 else 6) + a.k) 7
theorem mwa : (fun ver => a.m ver (flexOf (some 0) ver)) = MwM r (some 0) := by
  funext ver
  unfold MwM
  generalize flexOf (some 0) ver = flex
  cases flex <;> rfl
theorem codeR : Tryz.f104.body = some (gRead gn 136 61 102 42 M0 none (some 0) r bR) := by kernel_rfl
theorem codeW : Tryz.f63.body = some (gWrite hn 136 42 M1 (some 0) a bW) := by kernel_rfl
theorem codeD : Tryz.f62.body = some (gRF 104 61 22 4 bD) := by kernel_rfl
theorem sz87 : (Tryz.prog.info? 87).map (·.size) = some 1 := by kernel_rfl
theorem fa136_1 : FieldAt Tryz.prog 136 1 1 87 1 := fieldAt_of Tryz.underlying136 rfl rfl rfl sz87 (by decide)
theorem sz21 : (Tryz.prog.info? 21).map (·.size) = some 1 := by kernel_rfl
theorem fa136_2 : FieldAt Tryz.prog 136 2 2 21 1 := fieldAt_of Tryz.underlying136 rfl rfl rfl sz21 (by decide)
theorem sz134 : (Tryz.prog.info? 134).map (·.size) = some 1 := by kernel_rfl
theorem fa136_3 : FieldAt Tryz.prog 136 3 3 134 1 := fieldAt_of Tryz.underlying136 rfl rfl rfl sz134 (by decide)
theorem sl134 : Sl Tryz.prog 134 3 48 [.string ⟨#[]⟩, .slice none 0 0, .map none] := sl_of Tryz.underlying134 (by kernel_rfl) sz134 (by decide) rfl
theorem sz9 : (Tryz.prog.info? 9).map (·.size) = some 1 := by kernel_rfl
theorem fa140_0 : FieldAt Tryz.prog 140 0 0 9 1 := fieldAt_of Tryz.underlying140 rfl rfl rfl sz9 (by decide)
theorem sz138 : (Tryz.prog.info? 138).map (·.size) = some 1 := by kernel_rfl
theorem fa140_1 : FieldAt Tryz.prog 140 1 1 138 1 := fieldAt_of Tryz.underlying140 rfl rfl rfl sz138 (by decide)
theorem sl138 : Sl Tryz.prog 138 39 72 [.int .i32 0, .int .i32 0, .int .i32 0, .int .u8 0, .int .u8 0, .int .u8 0, .int .u8 0, .int .u8 0, .int .u8 0, .int .u8 0, .int .u8 0, .int .u8 0, .int .u8 0, .int .u8 0, .int .u8 0, .int .u8 0, .int .u8 0, .int .u8 0, .int .u8 0, .int .u8 0, .int .u8 0, .int .u8 0, .int .u8 0, .int .u8 0, .int .u8 0, .int .u8 0, .int .u8 0, .int .u8 0, .int .u8 0, .int .u8 0, .int .u8 0, .int .u8 0, .int .u8 0, .int .u8 0, .int .u8 0, .int .i32 0, .int .i64 0, .bool false, .map none] := sl_of Tryz.underlying138 (by kernel_rfl) sz138 (by decide) rfl
theorem fa144_0 : FieldAt Tryz.prog 144 0 0 21 1 := fieldAt_of Tryz.underlying144 rfl rfl rfl sz21 (by decide)
theorem fa144_1 : FieldAt Tryz.prog 144 1 1 21 1 := fieldAt_of Tryz.underlying144 rfl rfl rfl sz21 (by decide)
theorem fa144_2 : FieldAt Tryz.prog 144 2 2 21 1 := fieldAt_of Tryz.underlying144 rfl rfl rfl sz21 (by decide)
theorem sz142 : (Tryz.prog.info? 142).map (·.size) = some 16 := by kernel_rfl
theorem fa144_3 : FieldAt Tryz.prog 144 3 3 142 16 := fieldAt_of Tryz.underlying144 rfl rfl rfl sz142 (by decide)
theorem bx16 : BxT Tryz.prog 142 16 where
  alc := ⟨#[.int .u8 0, .int .u8 0, .int .u8 0, .int .u8 0, .int .u8 0, .int .u8 0, .int .u8 0, .int .u8 0, .int .u8 0, .int .u8 0, .int .u8 0, .int .u8 0, .int .u8 0, .int .u8 0, .int .u8 0, .int .u8 0], rfl, fun o a w h => by
    obtain ⟨d, op, t, p, af, g⟩ := o
    simp only at h
    subst h
    kernel_rfl⟩
  sz := info_of sz142
  desc := ⟨_, Tryz.underlying142, rfl⟩
theorem fa144_4 : FieldAt Tryz.prog 144 4 19 142 16 := fieldAt_of Tryz.underlying144 rfl rfl rfl sz142 (by decide)
theorem fa144_5 : FieldAt Tryz.prog 144 5 35 21 1 := fieldAt_of Tryz.underlying144 rfl rfl rfl sz21 (by decide)
theorem sz2 : (Tryz.prog.info? 2).map (·.size) = some 1 := by kernel_rfl
theorem fa144_6 : FieldAt Tryz.prog 144 6 36 2 1 := fieldAt_of Tryz.underlying144 rfl rfl rfl sz2 (by decide)
theorem sz4 : (Tryz.prog.info? 4).map (·.size) = some 1 := by kernel_rfl
theorem fa144_7 : FieldAt Tryz.prog 144 7 37 4 1 := fieldAt_of Tryz.underlying144 rfl rfl rfl sz4 (by decide)
theorem sz72 : (Tryz.prog.info? 72).map (·.size) = some 1 := by kernel_rfl
theorem fa144_8 : FieldAt Tryz.prog 144 8 38 72 1 := fieldAt_of Tryz.underlying144 rfl rfl rfl sz72 (by decide)
theorem fa140_2 : FieldAt Tryz.prog 140 2 2 72 1 := fieldAt_of Tryz.underlying140 rfl rfl rfl sz72 (by decide)
theorem fa136_4 : FieldAt Tryz.prog 136 4 4 72 1 := fieldAt_of Tryz.underlying136 rfl rfl rfl sz72 (by decide)
theorem one87 : One Tryz.prog 87 := one_of Tryz.underlying87 rfl sz87
theorem one21 : One Tryz.prog 21 := one_of Tryz.underlying21 rfl sz21
theorem one9 : One Tryz.prog 9 := one_of Tryz.underlying9 rfl sz9
theorem one2 : One Tryz.prog 2 := one_of Tryz.underlying2 rfl sz2
theorem one4 : One Tryz.prog 4 := one_of Tryz.underlying4 rfl sz4
theorem sz42 : (Tryz.prog.info? 42).map (·.size) = some 1 := by kernel_rfl
theorem fa136_0 : FieldAt Tryz.prog 136 0 0 42 1 := fieldAt_of Tryz.underlying136 rfl rfl rfl sz42 (by decide)
def dl_VoteRequest : List DI := [.set ⟨2, 2, 21, .int .i32 (-1)⟩]
noncomputable def bDf_VoteRequest : Code := (Tryz.f102.body).getD .skip
theorem def_VoteRequest : DefC Tryz.prog 102 5 [0, 3] :=
  def_set (T := 136) (l := dl_VoteRequest) Tryz.func102 bDf_VoteRequest (by kernel_rfl) Tryz.results102 Tryz.ntmps102 (by decide) rfl (fun x hx => by
    simp only [dl_VoteRequest, List.mem_cons, List.not_mem_nil, or_false] at hx
    subst hx; exact ⟨fa136_2, rfl, rfl, by decide, by decide⟩)
theorem okR : r.ok Tryz.prog true 136 1 5 := ⟨by decide, ⟨rfl, rd_cnstring, rd_nstring⟩, fun flex => fa136_1, ⟨by decide, NumC.rd (by decide) rd_int32, fun flex => fa136_2, ⟨by decide, ⟨rfl, rd_calen, rd_alen⟩, fa136_3, sl134, by decide, (def_skip Tryz.func147 rfl rfl rfl), nils_ok rfl, ⟨by decide, ⟨rfl, rd_cstring, rd_string⟩, fun flex => fa140_0, ⟨by decide, ⟨rfl, rd_calen, rd_alen⟩, fa140_1, sl138, by decide, (def_skip Tryz.func148 rfl rfl rfl), nils_ok rfl, ⟨by decide, NumC.rd (by decide) rd_int32, fun flex => fa144_0, ⟨by decide, NumC.rd (by decide) rd_int32, fun flex => fa144_1, ⟨by decide, NumC.rd (by decide) rd_int32, fun flex => fa144_2, ⟨by decide, ⟨rd_uuid, bx16⟩, fun flex => fa144_3, ⟨by decide, ⟨rd_uuid, bx16⟩, fun flex => fa144_4, ⟨by decide, NumC.rd (by decide) rd_int32, fun flex => fa144_5, ⟨by decide, NumC.rd (by decide) rd_int64, fun flex => fa144_6, ⟨by decide, NumC.rd (by decide) rd_bool, fun flex => fa144_7, ⟨by decide, rfl, rd_tags, fa144_8, done_ok (by decide)⟩⟩⟩⟩⟩⟩⟩⟩⟩, ⟨by decide, rfl, rd_tags, fa140_2, done_ok (by decide)⟩⟩⟩, ⟨by decide, rfl, rd_tags, fa136_4, done_ok (by decide)⟩⟩⟩⟩
theorem okW : a.ok Tryz.prog 5 true true 136 := ⟨⟨rfl, app_cnstrC, app_nstrC⟩, fun flex => by cases flex <;> exact ⟨fa136_1, (.inl ⟨one87, rfl, fun _ _ => rfl⟩)⟩, ⟨app_i32C, fun flex => ⟨fa136_2, (.inl ⟨one21, rfl, fun _ _ => rfl⟩)⟩, ⟨rfl, ⟨rfl, len_compact, len_plain⟩, fa136_3, sl134, ⟨⟨rfl, app_cstrC, app_strC⟩, fun flex => by cases flex <;> exact ⟨fa140_0, (.inl ⟨one9, rfl, fun _ _ => rfl⟩)⟩, ⟨rfl, ⟨rfl, len_compact, len_plain⟩, fa140_1, sl138, ⟨app_i32C, fun flex => ⟨fa144_0, (.inl ⟨one21, rfl, fun _ _ => rfl⟩)⟩, ⟨app_i32C, fun flex => ⟨fa144_1, (.inl ⟨one21, rfl, fun _ _ => rfl⟩)⟩, ⟨app_i32C, fun flex => ⟨fa144_2, (.inl ⟨one21, rfl, fun _ _ => rfl⟩)⟩, ⟨⟨app_uuidC, bx16⟩, fun flex => ⟨fa144_3, (.inr ⟨⟨⟨_, Tryz.underlying142, rfl⟩, info_of sz142⟩, fun _ => rfl⟩)⟩, ⟨⟨app_uuidC, bx16⟩, fun flex => ⟨fa144_4, (.inr ⟨⟨⟨_, Tryz.underlying142, rfl⟩, info_of sz142⟩, fun _ => rfl⟩)⟩, ⟨app_i32C, fun flex => ⟨fa144_5, (.inl ⟨one21, rfl, fun _ _ => rfl⟩)⟩, ⟨app_i64C, fun flex => ⟨fa144_6, (.inl ⟨one2, rfl, fun _ _ => rfl⟩)⟩, ⟨app_boolC, fun flex => ⟨fa144_7, (.inl ⟨one4, rfl, fun _ _ => rfl⟩)⟩, ⟨rfl, fa144_8, tags_len, app_uvarint, tags_each, trivial⟩⟩⟩⟩⟩⟩⟩⟩⟩, ⟨rfl, fa140_2, tags_len, app_uvarint, tags_each, trivial⟩⟩⟩, ⟨rfl, fa136_4, tags_len, app_uvarint, tags_each, trivial⟩⟩⟩⟩
theorem msgR : MsgR Tryz.prog gn 136 61 102 42 M0 Tryz.f104.ntmps 5 5 none (some 0) r EI :=
  ⟨rd_ok, rd_completeE, und_i32, rdrT, one_i16, fa136_0, def_VoteRequest, fun F h => (by cases h), okR, by decide, by decide, by decide, rfl, by decide⟩
theorem msgW : MsgW Tryz.prog hn true 136 42 M1 Tryz.f63.ntmps (some 0) a := ⟨und_int, und_u32, one_i16, fa136_0, okW, rfl, by decide, by decide⟩
theorem plain_of {F : Nat} {fn : Func} (hf : Tryz.prog.funcs[F]? = some fn) (hb : fn.body.isNone = false) (hn : (fn.name == "runtime.NumGoroutine") = false) : Plain Tryz.prog F := ⟨fn, hf, hb, hn⟩
theorem agc : AgC Tryz.prog 5 22 52 62 63 1 EI none (some 0) r (MwM r (some 0)) vlM 5 :=
  mwa ▸ AgC.mk' (sl := 22) (bo := 4) msgR msgW Tryz.func104 bR codeR Tryz.results104 rfl (plain_of Tryz.func104 rfl rfl) Tryz.func62 bD codeD Tryz.results62 Tryz.ntmps62 (plain_of Tryz.func62 rfl rfl)
    Tryz.func63 bW codeW Tryz.results63 rfl (plain_of Tryz.func63 rfl rfl) Tryz.underlying22 info_u8 Tryz.underlying52 (errI_keep (L := 1 + 1) (Nat.lt_succ_self _)) (fun w h => h.2) vlM
    (fun w D b lo hi ver x bs bs0 ver0 hv hc hH => by have e : a.m ver (flexOf (some 0) ver) = MwM r (some 0) ver := congrFun mwa ver; rw [e]; exact hH)
noncomputable def bP : Code := (Tryz.f58.body).getD .skip
noncomputable def bS : Code := (Tryz.f61.body).getD .skip
noncomputable def bV : Code := (Tryz.f59.body).getD .skip
noncomputable def bX : Code := (Tryz.f25.body).getD .skip
theorem codeP : Tryz.f58.body = some (gNP 102 136 61 bP) := by kernel_rfl
theorem codeS : Tryz.f61.body = some (gSV 136 42 bS) := by kernel_rfl
theorem codeV : Tryz.f59.body = some (gK (.int .i16 0) (.int .i16 2) bV) := by kernel_rfl
theorem codeX : Tryz.f25.body = some (gMx 58 59 61 42 3 bX) := by kernel_rfl
theorem alc : Alc Tryz.prog 136 #[.int .i16 0, .pointer none, .int .i32 0, .slice none 0 0, .map none] := fun o a w h => by
  obtain ⟨d, op, t, p, af, g⟩ := o
  simp only at h
  subst h
  kernel_rfl
theorem new_calls (w : World) : Calls Tryz.prog 58 #[] w fun e w' => e = .returned (.pointer (some ⟨w.heap.size, 0, none⟩)) ∧ Only (fun _ => False) w w' ∧ Blk w' w.heap.size 5 ∧ ∀ q ∈ r.nils, w'.cell? ⟨w.heap.size, q.1, none⟩ = some (nilV q.2) :=
  (NP_calls (ks := 0 :: r.nils.map Prod.fst) Tryz.func58 bP codeP Tryz.results58 Tryz.ntmps58 alc rfl def_VoteRequest).mono fun e w' h => ⟨h.1, h.2.1, h.2.2.1, fun q hq => (h.2.2.2 q.1 (List.mem_cons_of_mem _ (List.mem_map_of_mem hq))).trans (nilsZ rfl q hq)⟩
theorem set_calls (w : World) (b : Nat) (n : Int) (hb : Blk w b 5) : Calls Tryz.prog 61 #[.pointer (some ⟨b, 0, none⟩), .int .i16 n] w fun e w' => e = .returned (.tuple #[]) ∧ Only (· = b) w w' ∧ Upd b 0 1 w w' ∧ w'.cell? ⟨b, 0, none⟩ = some (.int .i16 n) :=
  SV_calls Tryz.func61 bS codeS Tryz.results61 Tryz.ntmps61 fa136_0 hb (by decide)
theorem max_calls (w : World) : Calls Tryz.prog 25 #[] w fun e w' => e = .returned (.int .i64 2) ∧ Only (fun _ => False) w w' :=
  Mx_calls Tryz.func25 bX codeX Tryz.results25 Tryz.ntmps25 und_int Tryz.underlying42 (plain_of Tryz.func58 rfl rfl) (plain_of Tryz.func59 rfl rfl) ((new_calls w).mono fun e w' h => ⟨_, h.1, h.2.1⟩) fun v w' => K_calls Tryz.func59 bV codeV Tryz.results59 Tryz.ntmps59
noncomputable def bA : Code := (Tryz.f27.body).getD .skip
theorem codeA : Tryz.f27.body = some (gAgM 58 61 62 63 61 22 52 52 3 42 bA) := by kernel_rfl
/-- What impl.AgainVoteRequest comes to. -/
theorem again {w : World} {ver : Int} {vs : Value} {B : Nat} {bs : List UInt8} (hB : B ≤ w.heap.size) (hv : Oc w B vs bs) (hl : bs.length ≤ lim) (hI : EI w) (hr : IntKind.i16.wrap ver = ver) (hf : Fits none (some 0) ver r (MwM r (some 0)) vlM bs) :
    Calls Tryz.prog 27 #[.int .i64 ver, vs] w (AgQ 5 none (some 0) ver r (MwM r (some 0)) vlM w bs) :=
  AgM_calls agc Tryz.func27 bA codeA Tryz.results27 Tryz.ntmps27 (plain_of Tryz.func58 rfl rfl) (plain_of Tryz.func61 rfl rfl) und_int Tryz.underlying42 (by decide) (by decide) new_calls set_calls hB hv hl hI hr hf
theorem ei_up {w w' : World} (h : EI w) (O : Only (fun _ => False) w w') : EI w' := agc.keep w w' h (O.mono fun _ _ h => h.elim)
theorem full {w : World} {vs : Value} {B : Nat} {ver : Int} {bs : List UInt8} (hB : B ≤ w.heap.size) (hv : Oc w B vs bs) (hr : IntKind.i16.wrap ver = ver) (h : Full (r.m ver (flexOf (some 0) ver)).w bs) (hl : bs.length ≤ lim) (hI : EI w) : Calls Tryz.prog 27 #[.int .i64 ver, vs] w (FullP 5 bs w) :=
  have k := fullM h (by unfold lim at hl; unfold lim2; omega)
  (again hB hv hl hI hr k.1).mono fun e w' h => fullP_of (k.2 h)
theorem cut {w : World} {vs : Value} {B : Nat} {ver : Int} {q s : List UInt8} (hB : B ≤ w.heap.size) (hv : Oc w B vs q) (hr : IntKind.i16.wrap ver = ver) (h : Full (r.m ver (flexOf (some 0) ver)).w (q ++ s)) (hs : s ≠ []) (hl : q.length ≤ lim) (hI : EI w) : Calls Tryz.prog 27 #[.int .i64 ver, vs] w (CutP w) :=
  have k := cutM h hs hl
  (again hB hv hl hI hr k.1).mono fun e w' h => k.2 h
theorem any2 {ver : Int} {bs : List UInt8} (hr : IntKind.i16.wrap ver = ver) (hok : (r.m ver (flexOf (some 0) ver)).w.ok = true) (hl : bs.length ≤ 32767) :
    (∃ out, out.length ≤ bs.length ∧ Full (r.m ver (flexOf (some 0) ver)).w out ∧ ∀ {w : World} {vs : Value} {B : Nat}, B ≤ w.heap.size → Oc w B vs bs → EI w → Calls Tryz.prog 27 #[.int .i64 ver, vs] w (FullP 5 out w)) ∨
      ∀ {w : World} {vs : Value} {B : Nat}, B ≤ w.heap.size → Oc w B vs bs → EI w → Calls Tryz.prog 27 #[.int .i64 ver, vs] w (CutP w) := by
  have hf := (anyM hok hl).1
  have hll : bs.length ≤ lim := by unfold lim; omega
  rcases anyM2 hok hl with ⟨out, h1, h4, h5⟩ | h
  · exact .inl ⟨out, h1, h4, fun hB hv hI => (again hB hv hll hI hr hf).mono fun e w' h => h5 h⟩
  · exact .inr fun hB hv hI => (again hB hv hll hI hr hf).mono fun e w' hh => h hh
end Go.Proofs.YtffgggfendppiaaGreatDoor.Kf.MVoteRequest
