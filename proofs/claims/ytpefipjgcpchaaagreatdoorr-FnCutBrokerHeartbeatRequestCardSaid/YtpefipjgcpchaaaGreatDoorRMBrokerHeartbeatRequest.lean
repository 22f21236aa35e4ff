/- BrokerHeartbeatRequest: its schema, with tagged lists; what the thin package's functions over it come to. -/
import Derived.Test.YtpefipjgcpchaaaGreatDoorRMsgB
import Derived.Test.YtpefipjgcpchaaaGreatDoorRPW
import Derived.Test.YtpefipjgcpchaaaGreatDoorRPY
import Derived.Test.YtpefipjgcpchaaaGreatDoorRDfA
import Derived.Handy
import Derived.Test.YtpefipjgcpchaaaGreatDoorRTagC
import Derived.Test.YtpefipjgcpchaaaGreatDoorRTagG
import Derived.Test.YtpefipjgcpchaaaGreatDoorRKbT
import Derived.Test.YtpefipjgcpchaaaGreatDoorRKbV
namespace Go.Proofs.YtpefipjgcpchaaaGreatDoorR.Kf.MBrokerHeartbeatRequest
set_option linter.unusedVariables false
set_option linter.unusedSimpArgs false
set_option maxRecDepth 100000
open Go Go.RowKit

def r : R := .val .all 1 1 21 (.prim .i32 64) (.val .all 2 2 2 (.prim .i64 65) (.val .all 3 3 2 (.prim .i64 65) (.val .all 4 4 4 (.prim .bool 66) (.val .all 5 5 4 (.prim .bool 66) .done))))
def a : A := .val .all 1 1 21 (.one (.prim .i32) 40) (.val .all 2 2 2 (.one (.prim .i64) 41) (.val .all 3 3 2 (.one (.prim .i64) 41) (.val .all 4 4 4 (.one (.prim .bool) 42) (.val .all 5 5 4 (.one (.prim .bool) 42) .done))))
def tg0 : TG := ⟨0, 6, 6, 61, 16, [.int .u8 0, .int .u8 0, .int .u8 0, .int .u8 0, .int .u8 0, .int .u8 0, .int .u8 0, .int .u8 0, .int .u8 0, .int .u8 0, .int .u8 0, .int .u8 0, .int .u8 0, .int .u8 0, .int .u8 0, .int .u8 0], (.two 70 71), none, .v 82 (.uid 74 82)⟩
def ta0 : TA := ⟨0, 6, 6, 61, 16, [.int .u8 0, .int .u8 0, .int .u8 0, .int .u8 0, .int .u8 0, .int .u8 0, .int .u8 0, .int .u8 0, .int .u8 0, .int .u8 0, .int .u8 0, .int .u8 0, .int .u8 0, .int .u8 0, .int .u8 0, .int .u8 0], false, 45, 46, .v 82 82 47, 5⟩
def tg1 : TG := ⟨1, 7, 7, 61, 16, [.int .u8 0, .int .u8 0, .int .u8 0, .int .u8 0, .int .u8 0, .int .u8 0, .int .u8 0, .int .u8 0, .int .u8 0, .int .u8 0, .int .u8 0, .int .u8 0, .int .u8 0, .int .u8 0, .int .u8 0, .int .u8 0], (.two 70 71), (some (0)), .v 82 (.uid 74 82)⟩
def ta1 : TA := ⟨1, 7, 7, 61, 16, [.int .u8 0, .int .u8 0, .int .u8 0, .int .u8 0, .int .u8 0, .int .u8 0, .int .u8 0, .int .u8 0, .int .u8 0, .int .u8 0, .int .u8 0, .int .u8 0, .int .u8 0, .int .u8 0, .int .u8 0, .int .u8 0], true, 48, 49, .v 82 82 47, 20⟩
def gs : List (TG × TA) := [(tg0, ta0), (tg1, ta1)]
def Y : TGn := ⟨67, 69, 68, 57, 3, 51, 64, 22, 8⟩
def Z : ZGn := ⟨43, 44, 50, 79, 8, 64⟩
abbrev Fr : World → World → Prop := FrU 5
noncomputable def bR : Code := (Tryz.f39.body).getD .skip
noncomputable def bW : Code := (Tryz.f21.body).getD .skip
noncomputable def bD : Code := (Tryz.f20.body).getD .skip
noncomputable def c1 : Code := pc bR (List.replicate 13 1)
noncomputable def d1 : Code := pc bW (List.replicate 10 1)
def M0 : Nat := 11 + r.k + 2 + TG.ks (gs.map (·.1))
def M1 : Nat := 7 + a.k + 3 + TA.ks (gs.map (·.2))
theorem codeR : Tryz.f39.body = some (gReadT gn Y 66 43 30 42 M0 (0) r (gs.map (·.1)) c1 bR) := by kernel_rfl
theorem codeW : Tryz.f21.body = some (gWriteT hn Z 66 42 M1 (0) a (gs.map (·.2)) d1 bW) := by kernel_rfl
theorem codeD : Tryz.f20.body = some (gRF 39 43 22 4 bD) := by kernel_rfl
theorem sz61 : (Tryz.prog.info? 61).map (·.size) = some 1 := by kernel_rfl
theorem fa66_6 : FieldAt Tryz.prog 66 6 6 61 1 := fieldAt_of Tryz.underlying66 rfl rfl rfl sz61 (by decide)
theorem sl61 : Sl Tryz.prog 61 16 16 [.int .u8 0, .int .u8 0, .int .u8 0, .int .u8 0, .int .u8 0, .int .u8 0, .int .u8 0, .int .u8 0, .int .u8 0, .int .u8 0, .int .u8 0, .int .u8 0, .int .u8 0, .int .u8 0, .int .u8 0, .int .u8 0] := sl_of Tryz.underlying61 (by kernel_rfl) sz61 (by decide) rfl
theorem sz82 : (Tryz.prog.info? 82).map (·.size) = some 16 := by kernel_rfl
theorem bx16 : BxT Tryz.prog 82 16 where
  alc := ⟨#[.int .u8 0, .int .u8 0, .int .u8 0, .int .u8 0, .int .u8 0, .int .u8 0, .int .u8 0, .int .u8 0, .int .u8 0, .int .u8 0, .int .u8 0, .int .u8 0, .int .u8 0, .int .u8 0, .int .u8 0, .int .u8 0], rfl, fun o a w h => by
    obtain ⟨d, op, t, p, af, g⟩ := o
    simp only at h
    subst h
    kernel_rfl⟩
  sz := info_of sz82
  desc := ⟨_, Tryz.underlying82, rfl⟩
theorem fa66_7 : FieldAt Tryz.prog 66 7 7 61 1 := fieldAt_of Tryz.underlying66 rfl rfl rfl sz61 (by decide)
theorem sz64 : (Tryz.prog.info? 64).map (·.size) = some 1 := by kernel_rfl
theorem fa66_8 : FieldAt Tryz.prog 66 8 8 64 1 := fieldAt_of Tryz.underlying66 rfl rfl rfl sz64 (by decide)
theorem sz21 : (Tryz.prog.info? 21).map (·.size) = some 1 := by kernel_rfl
theorem fa66_1 : FieldAt Tryz.prog 66 1 1 21 1 := fieldAt_of Tryz.underlying66 rfl rfl rfl sz21 (by decide)
theorem sz2 : (Tryz.prog.info? 2).map (·.size) = some 1 := by kernel_rfl
theorem fa66_2 : FieldAt Tryz.prog 66 2 2 2 1 := fieldAt_of Tryz.underlying66 rfl rfl rfl sz2 (by decide)
theorem fa66_3 : FieldAt Tryz.prog 66 3 3 2 1 := fieldAt_of Tryz.underlying66 rfl rfl rfl sz2 (by decide)
theorem sz4 : (Tryz.prog.info? 4).map (·.size) = some 1 := by kernel_rfl
theorem fa66_4 : FieldAt Tryz.prog 66 4 4 4 1 := fieldAt_of Tryz.underlying66 rfl rfl rfl sz4 (by decide)
theorem fa66_5 : FieldAt Tryz.prog 66 5 5 4 1 := fieldAt_of Tryz.underlying66 rfl rfl rfl sz4 (by decide)
theorem one21 : One Tryz.prog 21 := one_of Tryz.underlying21 rfl sz21
theorem one2 : One Tryz.prog 2 := one_of Tryz.underlying2 rfl sz2
theorem one4 : One Tryz.prog 4 := one_of Tryz.underlying4 rfl sz4
theorem sz42 : (Tryz.prog.info? 42).map (·.size) = some 1 := by kernel_rfl
theorem fa66_0 : FieldAt Tryz.prog 66 0 0 42 1 := fieldAt_of Tryz.underlying66 rfl rfl rfl sz42 (by decide)
def dl_BrokerHeartbeatRequest : List DI := [.set ⟨2, 2, 2, .int .i64 (-1)⟩]
noncomputable def bDf_BrokerHeartbeatRequest : Code := (Tryz.f30.body).getD .skip
theorem def_BrokerHeartbeatRequest : DefC Tryz.prog 30 9 [0, 8, 6, 7] :=
  def_set (T := 66) (l := dl_BrokerHeartbeatRequest) Tryz.func30 bDf_BrokerHeartbeatRequest (by kernel_rfl) Tryz.results30 Tryz.ntmps30 (by decide) rfl (fun x hx => by
    simp only [dl_BrokerHeartbeatRequest, List.mem_cons, List.not_mem_nil, or_false] at hx
    subst hx; exact ⟨fa66_2, rfl, rfl, by decide, by decide⟩)
theorem info_u32m : (Tryz.prog.info? 57).map (fun i => (i.zero, i.size, i.bytes)) = some (some (.int .u32 0), 1, 4) := by kernel_rfl
theorem sz_u32 : (Tryz.prog.info? 57).map (·.size) = some 1 := by kernel_rfl
theorem one_u32 : One Tryz.prog 57 := one_of Tryz.underlying57 rfl sz_u32
theorem sl_u32 : Sl Tryz.prog 79 1 4 [.int .u32 0] := sl_of Tryz.underlying79 (by kernel_rfl) sz_u32 (by decide) rfl
theorem one61 : One Tryz.prog 61 := one_of Tryz.underlying61 rfl sz61
theorem okR : r.ok Tryz.prog true 66 1 6 := ⟨by decide, NumC.rd (by decide) rd_int32, fun flex => fa66_1, ⟨by decide, NumC.rd (by decide) rd_int64, fun flex => fa66_2, ⟨by decide, NumC.rd (by decide) rd_int64, fun flex => fa66_3, ⟨by decide, NumC.rd (by decide) rd_bool, fun flex => fa66_4, ⟨by decide, NumC.rd (by decide) rd_bool, fun flex => fa66_5, done_ok (by decide)⟩⟩⟩⟩⟩
theorem okW : a.ok Tryz.prog 5 true true 66 := ⟨app_i32C, fun flex => ⟨fa66_1, (.inl ⟨one21, rfl, fun _ _ => rfl⟩)⟩, ⟨app_i64C, fun flex => ⟨fa66_2, (.inl ⟨one2, rfl, fun _ _ => rfl⟩)⟩, ⟨app_i64C, fun flex => ⟨fa66_3, (.inl ⟨one2, rfl, fun _ _ => rfl⟩)⟩, ⟨app_boolC, fun flex => ⟨fa66_4, (.inl ⟨one4, rfl, fun _ _ => rfl⟩)⟩, ⟨app_boolC, fun flex => ⟨fa66_5, (.inl ⟨one4, rfl, fun _ _ => rfl⟩)⟩, trivial⟩⟩⟩⟩⟩
theorem gok0 : tg0.ok Tryz.prog true 66 := ⟨⟨⟨rd_uuid, bx16⟩, info_of sz82, fun flex => rfl⟩, ⟨rfl, rd_calen, rd_alen⟩, fa66_6, sl61, by decide⟩
theorem aok0 : ta0.ok Tryz.prog 5 true true Fr 66 := ⟨fa66_6, sl61, lenF_compact, ⟨apF_uuid, bx16, (.inr ⟨⟨⟨_, Tryz.underlying82, rfl⟩, info_of sz82⟩, fun _ => rfl⟩), rfl⟩, by decide⟩
theorem gok1 : tg1.ok Tryz.prog true 66 := ⟨⟨⟨rd_uuid, bx16⟩, info_of sz82, fun flex => rfl⟩, ⟨rfl, rd_calen, rd_alen⟩, fa66_7, sl61, by decide⟩
theorem aok1 : ta1.ok Tryz.prog 5 true true Fr 66 := ⟨fa66_7, sl61, lenF_cnull, ⟨apF_uuid, bx16, (.inr ⟨⟨⟨_, Tryz.underlying82, rfl⟩, info_of sz82⟩, fun _ => rfl⟩), rfl⟩, by decide⟩
theorem mixed : Tryz.prog.follows .mixedOrders = true := by kernel_rfl
theorem hFr : FrOk Fr := frU_ok _
theorem uvw : UvF Tryz.prog 5 43 Fr := uvF
theorem numT : NumT Tryz.prog 79 57 := ⟨Tryz.underlying79, by obtain ⟨i, h1, h2, h3, h4⟩ := info_parts info_u32m; exact ⟨i, h1, h2, h3, h4⟩⟩
theorem hi8 : ∃ i, Tryz.prog.info? 5 = some i := by obtain ⟨i, h, _⟩ := info_u8; exact ⟨i, h⟩
theorem yok : YOk Tryz.prog gn Y := ⟨rd_uvarint, rd_span, Tryz.underlying57, und_int, rdrT, Tryz.underlying51⟩
theorem gsr : ∀ g ∈ gs.map (·.1), g.ok Tryz.prog true 66 := by
  intro g hg
  simp only [gs, List.map_cons, List.map_nil, List.mem_cons, List.not_mem_nil, or_false] at hg
  rcases hg with rfl | rfl
  all_goals first | exact gok0 | exact gok1
theorem gsw : ∀ g ∈ gs.map (·.2), g.ok Tryz.prog 5 true true Fr 66 := by
  intro g hg
  simp only [gs, List.map_cons, List.map_nil, List.mem_cons, List.not_mem_nil, or_false] at hg
  rcases hg with rfl | rfl
  all_goals first | exact aok0 | exact aok1
theorem uniR : ∀ g ∈ gs.map (·.1), ∀ g' ∈ gs.map (·.1), g.key = g'.key → g = g' := by
  intro g hg g' hg' h
  simp only [gs, List.map_cons, List.map_nil, List.mem_cons, List.not_mem_nil, or_false] at hg hg'
  rcases hg with rfl | rfl <;> rcases hg' with rfl | rfl <;> first | rfl | exact absurd h (by decide)
theorem uniW : ∀ g ∈ gs.map (·.2), ∀ g' ∈ gs.map (·.2), g.key = g'.key → g = g' := by
  intro g hg g' hg' h
  simp only [gs, List.map_cons, List.map_nil, List.mem_cons, List.not_mem_nil, or_false] at hg hg'
  rcases hg with rfl | rfl <;> rcases hg' with rfl | rfl <;> first | rfl | exact absurd h (by decide)
theorem gokR : GsOk (gs.map (·.1)) 8 6 9 where
  dis := by decide
  uni := uniR
  tag := by decide
  zero := by decide
  pl := by decide
  plT := by decide
theorem unkR : UnkC Tryz.prog tgK 8 Tryz.f39.ntmps 10 (11 + r.k + 1) 7 (M0 + 13 + r.t + 8) 9 (gUnk gn Y 66 10 (11 + r.k + 1) (M0 + 13 + r.t + 8) (pc (pc (pc (pc c1 [0]) [1, 0, 1]) [0, 0, 1, 0, 0]) ([1, 1, 0] ++ pth (gs.map (·.1)).length))) :=
  unk_of (G := gn) (u := 64) mixed (by kernel_rfl) (by kernel_rfl) rd_uvarint rd_span setC Tryz.underlying57 und_int fa66_8 (by decide) (by decide) (by decide) (by decide)
theorem msgR : MsgT Tryz.prog gn Y tgK 66 43 30 42 M0 Tryz.f39.ntmps 9 6 8 (0) r (gs.map (·.1)) c1 EI where
  ok := rd_ok
  co := rd_completeE
  i32 := und_i32
  rs := rfl
  rt := rdrT
  i16o := one_i16
  f0 := fa66_0
  def_ := def_BrokerHeartbeatRequest
  ro := okR
  hi1 := by decide
  hio := by decide
  szo := by decide
  y := yok
  gsk := gsr
  gok := gokR
  unk := unkR
  M := rfl
  N := by decide
theorem cndW : CndAll Tryz.prog hn.u32 Tryz.f21.ntmps (7 + a.k) (gs.map (·.2)) (M1 + 8 + a.t + 1) (pc (pc d1 [0, 1, 0]) [1]) := ⟨cnd_len (int := 3) fa66_6 one61 ⟨_, Tryz.underlying61⟩ (by decide) (by decide) (by kernel_rfl), apk_of numT (by decide) (by decide) (by kernel_rfl), ⟨cnd_ver (int := 3) (i16 := 42) fa66_7 one61 ⟨_, Tryz.underlying61⟩ (by decide) (by decide) (by kernel_rfl), apk_of numT (by decide) (by decide) (by kernel_rfl), trivial⟩⟩
theorem sizW : SizAll Tryz.prog hn Fr Tryz.f21.ntmps (gs.map (·.2)) (7 + a.k + 3) (M1 + 8 + a.t + 1 + TA.tcs (gs.map (·.2)) + 10 + 7) (pc (pc (pc (pc (pc (pc d1 [0, 1, 0]) [1]) (pth1 (gs.map (·.2)).length)) [1, 0]) [1, 0, 0, 1, 1, 0, 0]) [1, 1, 0]) := ⟨siz_of hFr mixed (by kernel_rfl) (by kernel_rfl) uvw Tryz.underlying22 hi8 und_int und_u32 (by decide) (by decide) (by decide) (by kernel_rfl), ⟨siz_of hFr mixed (by kernel_rfl) (by kernel_rfl) uvw Tryz.underlying22 hi8 und_int und_u32 (by decide) (by decide) (by decide) (by kernel_rfl), trivial⟩⟩
theorem msgW : MsgWT Tryz.prog hn Z Fr 66 42 M1 Tryz.f21.ntmps 8 (0) a (gs.map (·.2)) d1 where
  int := und_int
  u32 := und_u32
  i16o := one_i16
  f0 := fa66_0
  ro := okW
  tg := { hFr := hFr, sl := ⟨_, Tryz.underlying22⟩, uv := uvw, uvU := uvF, fl := tags_len, fe := tags_each, ne := by decide, one := one_u32, ksS := ⟨4, _, sl_u32⟩, fT := fa66_8, gsk := gsw, uq := uniW, cnd := cndW, siz := sizW, fr := .inr fun _ _ h => h, short := by decide }
  M := rfl
  N := by decide
theorem plain_of {F : Nat} {fn : Func} (hf : Tryz.prog.funcs[F]? = some fn) (hb : fn.body.isNone = false) (hn : (fn.name == "runtime.NumGoroutine") = false) : Plain Tryz.prog F := ⟨fn, hf, hb, hn⟩
theorem prs0 : PairOk tg0 ta0 := ⟨rfl, rfl, rfl, rfl, fun ver => rfl⟩
theorem prs1 : PairOk tg1 ta1 := ⟨rfl, rfl, rfl, rfl, fun ver => rfl⟩
theorem prsA : ∀ x ∈ gs, PairOk x.1 x.2 := by
  intro x hx
  simp only [gs, List.mem_cons, List.not_mem_nil, or_false] at hx
  rcases hx with rfl | rfl
  all_goals first | exact prs0 | exact prs1
theorem agh : AgH Tryz.prog gn hn Y Z tgK Fr 66 43 30 42 M0 Tryz.f39.ntmps 9 6 8 (0) r a gs c1 M1 Tryz.f21.ntmps d1 EI 1 22 51 39 20 21 where
  hr := msgR
  hw := msgW
  prs := prsA
  uq := by simp [gs, tg0, tg1]
  gl := by decide
  hk := und_tgK
  ma := fun ver flex => by cases flex <;> rfl
  rdP := plain_of Tryz.func20 rfl rfl
  wrP := plain_of Tryz.func21 rfl rfl
  rd := fun h => RF_calls Tryz.func20 bD codeD Tryz.results20 Tryz.ntmps20 (plain_of Tryz.func39 rfl rfl) h
  rf := ⟨_, bR, Tryz.func39, codeR, Tryz.results39, rfl⟩
  wf := ⟨_, bW, Tryz.func21, codeW, Tryz.results21, rfl⟩
  slT := Tryz.underlying22
  u8 := info_u8
  er := Tryz.underlying51
  keep := errI_keep (L := 1 + 1) (Nat.lt_succ_self _)
  lt := fun w h => h.2
  n1 := by decide
noncomputable def bP : Code := (Tryz.f16.body).getD .skip
noncomputable def bS : Code := (Tryz.f19.body).getD .skip
noncomputable def bV : Code := (Tryz.f17.body).getD .skip
noncomputable def bX : Code := (Tryz.f6.body).getD .skip
noncomputable def bA : Code := (Tryz.f10.body).getD .skip
theorem codeP : Tryz.f16.body = some (gNP 30 66 43 bP) := by kernel_rfl
theorem codeS : Tryz.f19.body = some (gSV 66 42 bS) := by kernel_rfl
theorem codeV : Tryz.f17.body = some (gK (.int .i16 0) (.int .i16 2) bV) := by kernel_rfl
theorem codeX : Tryz.f6.body = some (gMx 16 17 43 42 3 bX) := by kernel_rfl
theorem codeA : Tryz.f10.body = some (gAgM 16 19 20 21 43 22 51 51 3 42 bA) := by kernel_rfl
theorem alc : Alc Tryz.prog 66 #[.int .i16 0, .int .i32 0, .int .i64 0, .int .i64 0, .bool false, .bool false, .slice none 0 0, .slice none 0 0, .map none] := fun o a w h => by
  obtain ⟨d, op, t, p, af, g⟩ := o
  simp only at h
  subst h
  kernel_rfl
def allK : List Nat := 0 :: 8 :: ((gs.map (·.1)).map (·.o) ++ r.nils.map (·.1))
theorem new_all (w : World) : Calls Tryz.prog 16 #[] w fun e w' => e = .returned (.pointer (some ⟨w.heap.size, 0, none⟩)) ∧ Only (fun _ => False) w w' ∧ Blk w' w.heap.size 9 ∧ ∀ k ∈ allK, w'.cell? ⟨w.heap.size, k, none⟩ = (#[.int .i16 0, .int .i32 0, .int .i64 0, .int .i64 0, .bool false, .bool false, .slice none 0 0, .slice none 0 0, .map none] : Array Value)[k]? :=
  NP_calls (ks := allK) Tryz.func16 bP codeP Tryz.results16 Tryz.ntmps16 alc rfl def_BrokerHeartbeatRequest
theorem new_calls (w : World) : Calls Tryz.prog 16 #[] w fun e w' => e = .returned (.pointer (some ⟨w.heap.size, 0, none⟩)) ∧ Only (fun _ => False) w w' ∧ Blk w' w.heap.size 9 ∧ (∀ q ∈ r.nils, w'.cell? ⟨w.heap.size, q.1, none⟩ = some (nilV q.2)) ∧ (∀ x ∈ gs, w'.cell? ⟨w.heap.size, x.1.o, none⟩ = some (.slice none 0 0)) ∧ w'.cell? ⟨w.heap.size, 8, none⟩ = some (.map none) :=
  (new_all w).mono fun e w' h => ⟨h.1, h.2.1, h.2.2.1, fun q hq => (h.2.2.2 q.1 (List.mem_cons_of_mem _ (List.mem_cons_of_mem _ (List.mem_append.2 (.inr (List.mem_map_of_mem hq)))))).trans (nilsZ rfl q hq),
    fun x hx => (h.2.2.2 x.1.o (List.mem_cons_of_mem _ (List.mem_cons_of_mem _ (List.mem_append.2 (.inl (List.mem_map_of_mem (List.mem_map_of_mem hx))))))).trans (by
      simp only [gs, List.mem_cons, List.not_mem_nil, or_false] at hx
      rcases hx with rfl | rfl <;> rfl), (h.2.2.2 8 (List.mem_cons_of_mem _ (List.mem_cons_self ..))).trans rfl⟩
theorem set_calls (w : World) (b : Nat) (n : Int) (hb : Blk w b 9) : Calls Tryz.prog 19 #[.pointer (some ⟨b, 0, none⟩), .int .i16 n] w fun e w' => e = .returned (.tuple #[]) ∧ Only (· = b) w w' ∧ Upd b 0 1 w w' ∧ w'.cell? ⟨b, 0, none⟩ = some (.int .i16 n) :=
  SV_calls Tryz.func19 bS codeS Tryz.results19 Tryz.ntmps19 fa66_0 hb (by decide)
theorem max_calls (w : World) : Calls Tryz.prog 6 #[] w fun e w' => e = .returned (.int .i64 2) ∧ Only (fun _ => False) w w' :=
  Mx_calls Tryz.func6 bX codeX Tryz.results6 Tryz.ntmps6 und_int Tryz.underlying42 (plain_of Tryz.func16 rfl rfl) (plain_of Tryz.func17 rfl rfl) ((new_calls w).mono fun e w' h => ⟨_, h.1, h.2.1⟩) fun v w' => K_calls Tryz.func17 bV codeV Tryz.results17 Tryz.ntmps17
theorem ei_up {w w' : World} (h : EI w) (O : Only (fun _ => False) w w') : EI w' := agh.keep w w' h (O.mono fun _ _ h => h.elim)
/-- What was written: the fields, the lists with a tag, the unknown tags. -/
structure FullT (ver : Int) (bs : List UInt8) : Prop where
  ex : ∃ (x : Val) (gv : List ((TG × TA) × Option (List Val))) (un : List (Nat × List UInt8)), gv.map (·.1) = gs ∧ GhT ver (decide (ver ≥ (0))) (gs.map (·.1)) gv un ∧ (r.m ver (decide (ver ≥ (0)))).w.ok = true ∧ Kf.wf (r.m ver (decide (ver ≥ (0)))).w x ∧
    bs = enc (r.m ver (decide (ver ≥ (0)))).w x ++ tgB (decide (ver ≥ (0))) (knV ver (decide (ver ≥ (0))) gv ++ un) ∧ (enc (r.m ver (decide (ver ≥ (0)))).w x).length + (encTags (knV ver (decide (ver ≥ (0))) gv ++ un)).length + 100 ≤ lim2
/-- What impl.AgainBrokerHeartbeatRequest comes to. -/
theorem again {w : World} {vs : Value} {B : Nat} {ver : Int} {q s : List UInt8} (hB : B ≤ w.heap.size) (hv : Oc w B vs q) (hr : IntKind.i16.wrap ver = ver) (hv0 : 0 ≤ ver) (h : FullT ver (q ++ s)) (hl : q.length ≤ lim) (hI : EI w) : Calls Tryz.prog 10 #[.int .i64 ver, vs] w fun e w' => (s = [] ∧ FullP 5 q w e w') ∨ (s ≠ [] ∧ CutP w e w') := by
  obtain ⟨x, gv, un, h1, h2, h3, h4, h5, h6⟩ := h.ex
  exact AgT_calls agh Tryz.func10 bA codeA Tryz.results10 Tryz.ntmps10 (plain_of Tryz.func16 rfl rfl) (plain_of Tryz.func19 rfl rfl) und_int Tryz.underlying42 new_calls set_calls hB hv hl hI hr hv0 h1 h2 h3 h4 h5 h6
theorem full {w : World} {vs : Value} {B : Nat} {ver : Int} {bs : List UInt8} (hB : B ≤ w.heap.size) (hv : Oc w B vs bs) (hr : IntKind.i16.wrap ver = ver) (hv0 : 0 ≤ ver) (h : FullT ver bs) (hl : bs.length ≤ lim) (hI : EI w) : Calls Tryz.prog 10 #[.int .i64 ver, vs] w (FullP 5 bs w) :=
  (again (q := bs) (s := []) hB hv hr hv0 (by rw [List.append_nil]; exact h) hl hI).mono fun e w' k => by
    rcases k with k | k
    · exact k.2
    · exact absurd rfl k.1
theorem cut {w : World} {vs : Value} {B : Nat} {ver : Int} {q s : List UInt8} (hB : B ≤ w.heap.size) (hv : Oc w B vs q) (hr : IntKind.i16.wrap ver = ver) (hv0 : 0 ≤ ver) (h : FullT ver (q ++ s)) (hs : s ≠ []) (hl : q.length ≤ lim) (hI : EI w) : Calls Tryz.prog 10 #[.int .i64 ver, vs] w (CutP w) :=
  (again hB hv hr hv0 h hl hI).mono fun e w' k => by
    rcases k with k | k
    · exact absurd k.1 hs
    · exact k.2
end Go.Proofs.YtpefipjgcpchaaaGreatDoorR.Kf.MBrokerHeartbeatRequest
