/- EndQuorumEpochResponse: its schema, with tagged lists; what the thin package's functions over it come to. -/
import Derived.Test.YtpefipjgcpchaaaGreatDoorRMsgB
import Derived.Test.YtpefipjgcpchaaaGreatDoorRPW
import Derived.Test.YtpefipjgcpchaaaGreatDoorRPY
import Derived.Test.YtpefipjgcpchaaaGreatDoorRDfA
import Derived.Handy
import Derived.Test.YtpefipjgcpchaaaGreatDoorRTagC
import Derived.Test.YtpefipjgcpchaaaGreatDoorRTagG
import Derived.Test.YtpefipjgcpchaaaGreatDoorRKbT
namespace Go.Proofs.YtpefipjgcpchaaaGreatDoorR.Kf.MEndQuorumEpochResponse
set_option linter.unusedVariables false
set_option linter.unusedSimpArgs false
set_option maxRecDepth 100000
open Go Go.RowKit

def r : R := .val .all 1 1 42 (.prim .i16 80) (.arrS .all 2 2 85 48 [.string ⟨#[]⟩, .slice none 0 0, .map none] (.two 70 71) none 81 90 93 (.val .all 0 0 9 (.str2 false 82 83 84 85) (.arrS .all 1 1 91 24 [.int .i32 0, .int .i16 0, .int .i32 0, .int .i32 0, .map none] (.two 70 71) none 86 95 97 (.val .all 0 0 21 (.prim .i32 64) (.val .all 1 1 42 (.prim .i16 80) (.val .all 2 2 21 (.prim .i32 64) (.val .all 3 3 21 (.prim .i32 64) (.tags 4 4 64 87 .done))))) (.tags 2 2 64 87 .done))) .done)
def a : A := .val .all 1 1 42 (.one (.prim .i16) 54) (.arrS .all 2 2 85 48 [.string ⟨#[]⟩, .slice none 0 0, .map none] none (.two false 45 46) 93 (.val .all 0 0 9 (.two (.str true false) (.str false false) 55 56) (.arrS .all 1 1 91 24 [.int .i32 0, .int .i16 0, .int .i32 0, .int .i32 0, .map none] none (.two false 45 46) 97 (.val .all 0 0 21 (.one (.prim .i32) 40) (.val .all 1 1 42 (.one (.prim .i16) 54) (.val .all 2 2 21 (.one (.prim .i32) 40) (.val .all 3 3 21 (.one (.prim .i32) 40) (.tags 4 4 64 44 43 50 .done))))) (.tags 2 2 64 44 43 50 .done))) .done)
def tg0 : TG := ⟨0, 3, 3, 86, 40, [.int .i32 0, .string ⟨#[]⟩, .int .u16 0, .map none], (.two 70 71), none, .s 88 98 100 (.val (.ge 1) 0 0 21 (.prim .i32 64) (.val (.ge 1) 1 1 9 (.str2 false 82 83 84 85) (.val (.ge 1) 2 2 27 (.prim .u16 89) (.tags 3 3 64 87 .done))))⟩
def ta0 : TA := ⟨0, 3, 3, 86, 40, [.int .i32 0, .string ⟨#[]⟩, .int .u16 0, .map none], false, 45, 46, .s 100 (.val (.ge 1) 0 0 21 (.one (.prim .i32) 40) (.val (.ge 1) 1 1 9 (.two (.str true false) (.str false false) 55 56) (.val (.ge 1) 2 2 27 (.one (.prim .u16) 57) (.tags 3 3 64 44 43 50 .done)))), 5⟩
def gs : List (TG × TA) := [(tg0, ta0)]
def Y : TGn := ⟨67, 69, 68, 57, 3, 51, 64, 22, 4⟩
def Z : ZGn := ⟨43, 44, 50, 79, 4, 64⟩
abbrev Fr : World → World → Prop := fun _ _ => True
noncomputable def bR : Code := (Tryz.f53.body).getD .skip
noncomputable def bW : Code := (Tryz.f28.body).getD .skip
noncomputable def bD : Code := (Tryz.f27.body).getD .skip
noncomputable def c1 : Code := pc bR (List.replicate 10 1)
noncomputable def d1 : Code := pc bW (List.replicate 7 1)
def M0 : Nat := 11 + r.k + 2 + TG.ks (gs.map (·.1))
def M1 : Nat := 7 + a.k + 3 + TA.ks (gs.map (·.2))
theorem codeR : Tryz.f53.body = some (gReadT gn Y 88 54 51 42 M0 (1) r (gs.map (·.1)) c1 bR) := by kernel_rfl
theorem codeW : Tryz.f28.body = some (gWriteT hn Z 88 42 M1 (1) a (gs.map (·.2)) d1 bW) := by kernel_rfl
theorem codeD : Tryz.f27.body = some (gRF 53 54 22 4 bD) := by kernel_rfl
theorem sz86 : (Tryz.prog.info? 86).map (·.size) = some 1 := by kernel_rfl
theorem fa88_3 : FieldAt Tryz.prog 88 3 3 86 1 := fieldAt_of Tryz.underlying88 rfl rfl rfl sz86 (by decide)
theorem sl86 : Sl Tryz.prog 86 4 40 [.int .i32 0, .string ⟨#[]⟩, .int .u16 0, .map none] := sl_of Tryz.underlying86 (by kernel_rfl) sz86 (by decide) rfl
theorem sz21 : (Tryz.prog.info? 21).map (·.size) = some 1 := by kernel_rfl
theorem fa100_0 : FieldAt Tryz.prog 100 0 0 21 1 := fieldAt_of Tryz.underlying100 rfl rfl rfl sz21 (by decide)
theorem sz9 : (Tryz.prog.info? 9).map (·.size) = some 1 := by kernel_rfl
theorem fa100_1 : FieldAt Tryz.prog 100 1 1 9 1 := fieldAt_of Tryz.underlying100 rfl rfl rfl sz9 (by decide)
theorem sz27 : (Tryz.prog.info? 27).map (·.size) = some 1 := by kernel_rfl
theorem fa100_2 : FieldAt Tryz.prog 100 2 2 27 1 := fieldAt_of Tryz.underlying100 rfl rfl rfl sz27 (by decide)
theorem sz64 : (Tryz.prog.info? 64).map (·.size) = some 1 := by kernel_rfl
theorem fa100_3 : FieldAt Tryz.prog 100 3 3 64 1 := fieldAt_of Tryz.underlying100 rfl rfl rfl sz64 (by decide)
theorem one21 : One Tryz.prog 21 := one_of Tryz.underlying21 rfl sz21
theorem one9 : One Tryz.prog 9 := one_of Tryz.underlying9 rfl sz9
theorem one27 : One Tryz.prog 27 := one_of Tryz.underlying27 rfl sz27
theorem fa88_4 : FieldAt Tryz.prog 88 4 4 64 1 := fieldAt_of Tryz.underlying88 rfl rfl rfl sz64 (by decide)
theorem sz42 : (Tryz.prog.info? 42).map (·.size) = some 1 := by kernel_rfl
theorem fa88_1 : FieldAt Tryz.prog 88 1 1 42 1 := fieldAt_of Tryz.underlying88 rfl rfl rfl sz42 (by decide)
theorem sz85 : (Tryz.prog.info? 85).map (·.size) = some 1 := by kernel_rfl
theorem fa88_2 : FieldAt Tryz.prog 88 2 2 85 1 := fieldAt_of Tryz.underlying88 rfl rfl rfl sz85 (by decide)
theorem sl85 : Sl Tryz.prog 85 3 48 [.string ⟨#[]⟩, .slice none 0 0, .map none] := sl_of Tryz.underlying85 (by kernel_rfl) sz85 (by decide) rfl
theorem fa93_0 : FieldAt Tryz.prog 93 0 0 9 1 := fieldAt_of Tryz.underlying93 rfl rfl rfl sz9 (by decide)
theorem sz91 : (Tryz.prog.info? 91).map (·.size) = some 1 := by kernel_rfl
theorem fa93_1 : FieldAt Tryz.prog 93 1 1 91 1 := fieldAt_of Tryz.underlying93 rfl rfl rfl sz91 (by decide)
theorem sl91 : Sl Tryz.prog 91 5 24 [.int .i32 0, .int .i16 0, .int .i32 0, .int .i32 0, .map none] := sl_of Tryz.underlying91 (by kernel_rfl) sz91 (by decide) rfl
theorem fa97_0 : FieldAt Tryz.prog 97 0 0 21 1 := fieldAt_of Tryz.underlying97 rfl rfl rfl sz21 (by decide)
theorem fa97_1 : FieldAt Tryz.prog 97 1 1 42 1 := fieldAt_of Tryz.underlying97 rfl rfl rfl sz42 (by decide)
theorem fa97_2 : FieldAt Tryz.prog 97 2 2 21 1 := fieldAt_of Tryz.underlying97 rfl rfl rfl sz21 (by decide)
theorem fa97_3 : FieldAt Tryz.prog 97 3 3 21 1 := fieldAt_of Tryz.underlying97 rfl rfl rfl sz21 (by decide)
theorem fa97_4 : FieldAt Tryz.prog 97 4 4 64 1 := fieldAt_of Tryz.underlying97 rfl rfl rfl sz64 (by decide)
theorem fa93_2 : FieldAt Tryz.prog 93 2 2 64 1 := fieldAt_of Tryz.underlying93 rfl rfl rfl sz64 (by decide)
theorem one42 : One Tryz.prog 42 := one_of Tryz.underlying42 rfl sz42
theorem fa88_0 : FieldAt Tryz.prog 88 0 0 42 1 := fieldAt_of Tryz.underlying88 rfl rfl rfl sz42 (by decide)
theorem info_u32m : (Tryz.prog.info? 57).map (fun i => (i.zero, i.size, i.bytes)) = some (some (.int .u32 0), 1, 4) := by kernel_rfl
theorem sz_u32 : (Tryz.prog.info? 57).map (·.size) = some 1 := by kernel_rfl
theorem one_u32 : One Tryz.prog 57 := one_of Tryz.underlying57 rfl sz_u32
theorem sl_u32 : Sl Tryz.prog 79 1 4 [.int .u32 0] := sl_of Tryz.underlying79 (by kernel_rfl) sz_u32 (by decide) rfl
theorem one86 : One Tryz.prog 86 := one_of Tryz.underlying86 rfl sz86
theorem okR : r.ok Tryz.prog true 88 1 3 := ⟨by decide, NumC.rd (by decide) rd_int16, fun flex => fa88_1, ⟨by decide, ⟨rfl, rd_calen, rd_alen⟩, fa88_2, sl85, by decide, (def_skip Tryz.func81 rfl rfl rfl), nils_ok rfl, ⟨by decide, ⟨rfl, rd_cstring, rd_string⟩, fun flex => fa93_0, ⟨by decide, ⟨rfl, rd_calen, rd_alen⟩, fa93_1, sl91, by decide, (def_skip Tryz.func86 rfl rfl rfl), nils_ok rfl, ⟨by decide, NumC.rd (by decide) rd_int32, fun flex => fa97_0, ⟨by decide, NumC.rd (by decide) rd_int16, fun flex => fa97_1, ⟨by decide, NumC.rd (by decide) rd_int32, fun flex => fa97_2, ⟨by decide, NumC.rd (by decide) rd_int32, fun flex => fa97_3, ⟨by decide, rfl, rd_tags, fa97_4, done_ok (by decide)⟩⟩⟩⟩⟩, ⟨by decide, rfl, rd_tags, fa93_2, done_ok (by decide)⟩⟩⟩, done_ok (by decide)⟩⟩
theorem okW : a.ok Tryz.prog 5 true true 88 := ⟨app_i16C, fun flex => ⟨fa88_1, (.inl ⟨one42, rfl, fun _ _ => rfl⟩)⟩, ⟨rfl, ⟨rfl, len_compact, len_plain⟩, fa88_2, sl85, ⟨⟨rfl, app_cstrC, app_strC⟩, fun flex => by cases flex <;> exact ⟨fa93_0, (.inl ⟨one9, rfl, fun _ _ => rfl⟩)⟩, ⟨rfl, ⟨rfl, len_compact, len_plain⟩, fa93_1, sl91, ⟨app_i32C, fun flex => ⟨fa97_0, (.inl ⟨one21, rfl, fun _ _ => rfl⟩)⟩, ⟨app_i16C, fun flex => ⟨fa97_1, (.inl ⟨one42, rfl, fun _ _ => rfl⟩)⟩, ⟨app_i32C, fun flex => ⟨fa97_2, (.inl ⟨one21, rfl, fun _ _ => rfl⟩)⟩, ⟨app_i32C, fun flex => ⟨fa97_3, (.inl ⟨one21, rfl, fun _ _ => rfl⟩)⟩, ⟨rfl, fa97_4, tags_len, app_uvarint, tags_each, trivial⟩⟩⟩⟩⟩, ⟨rfl, fa93_2, tags_len, app_uvarint, tags_each, trivial⟩⟩⟩, trivial⟩⟩
theorem gok0 : tg0.ok Tryz.prog true 88 := ⟨⟨(def_skip Tryz.func88 rfl rfl rfl), nils_ok rfl, ⟨by decide, NumC.rd (by decide) rd_int32, fun flex => fa100_0, ⟨by decide, ⟨rfl, rd_cstring, rd_string⟩, fun flex => fa100_1, ⟨by decide, NumC.rd (by decide) rd_uint16, fun flex => fa100_2, ⟨by decide, rfl, rd_tags, fa100_3, done_ok (by decide)⟩⟩⟩⟩⟩, ⟨rfl, rd_calen, rd_alen⟩, fa88_3, sl86, by decide⟩
theorem aok0 : ta0.ok Tryz.prog 5 true true Fr 88 := ⟨fa88_3, sl86, len_compact.t, ⟨⟨app_i32C, fun flex => ⟨fa100_0, (.inl ⟨one21, rfl, fun _ _ => rfl⟩)⟩, ⟨⟨rfl, app_cstrC, app_strC⟩, fun flex => by cases flex <;> exact ⟨fa100_1, (.inl ⟨one9, rfl, fun _ _ => rfl⟩)⟩, ⟨app_u16C, fun flex => ⟨fa100_2, (.inl ⟨one27, rfl, fun _ _ => rfl⟩)⟩, ⟨rfl, fa100_3, tags_len, app_uvarint, tags_each, trivial⟩⟩⟩⟩, fun _ _ => trivial⟩, by decide⟩
theorem mixed : Tryz.prog.follows .mixedOrders = true := by kernel_rfl
theorem hFr : FrOk Fr := frT_ok
theorem uvw : UvF Tryz.prog 5 43 Fr := app_uvarint.t
theorem numT : NumT Tryz.prog 79 57 := ⟨Tryz.underlying79, by obtain ⟨i, h1, h2, h3, h4⟩ := info_parts info_u32m; exact ⟨i, h1, h2, h3, h4⟩⟩
theorem hi8 : ∃ i, Tryz.prog.info? 5 = some i := by obtain ⟨i, h, _⟩ := info_u8; exact ⟨i, h⟩
theorem yok : YOk Tryz.prog gn Y := ⟨rd_uvarint, rd_span, Tryz.underlying57, und_int, rdrT, Tryz.underlying51⟩
theorem gsr : ∀ g ∈ gs.map (·.1), g.ok Tryz.prog true 88 := by
  intro g hg
  simp only [gs, List.map_cons, List.map_nil, List.mem_cons, List.not_mem_nil, or_false] at hg
  rcases hg with rfl
  all_goals first | exact gok0
theorem gsw : ∀ g ∈ gs.map (·.2), g.ok Tryz.prog 5 true true Fr 88 := by
  intro g hg
  simp only [gs, List.map_cons, List.map_nil, List.mem_cons, List.not_mem_nil, or_false] at hg
  rcases hg with rfl
  all_goals first | exact aok0
theorem uniR : ∀ g ∈ gs.map (·.1), ∀ g' ∈ gs.map (·.1), g.key = g'.key → g = g' := by
  intro g hg g' hg' h
  simp only [gs, List.map_cons, List.map_nil, List.mem_cons, List.not_mem_nil, or_false] at hg hg'
  rcases hg with rfl <;> rcases hg' with rfl <;> first | rfl | exact absurd h (by decide)
theorem uniW : ∀ g ∈ gs.map (·.2), ∀ g' ∈ gs.map (·.2), g.key = g'.key → g = g' := by
  intro g hg g' hg' h
  simp only [gs, List.map_cons, List.map_nil, List.mem_cons, List.not_mem_nil, or_false] at hg hg'
  rcases hg with rfl <;> rcases hg' with rfl <;> first | rfl | exact absurd h (by decide)
theorem gokR : GsOk (gs.map (·.1)) 4 3 5 where
  dis := by decide
  uni := uniR
  tag := by decide
  zero := by decide
  pl := by decide
  plT := by decide
theorem unkR : UnkC Tryz.prog tgK 4 Tryz.f53.ntmps 10 (11 + r.k + 1) 7 (M0 + 13 + r.t + 8) 5 (gUnk gn Y 88 10 (11 + r.k + 1) (M0 + 13 + r.t + 8) (pc (pc (pc (pc c1 [0]) [1, 0, 1]) [0, 0, 1, 0, 0]) ([1, 1, 0] ++ pth (gs.map (·.1)).length))) :=
  unk_of (G := gn) (u := 64) mixed (by kernel_rfl) (by kernel_rfl) rd_uvarint rd_span setC Tryz.underlying57 und_int fa88_4 (by decide) (by decide) (by decide) (by decide)
theorem msgR : MsgT Tryz.prog gn Y tgK 88 54 51 42 M0 Tryz.f53.ntmps 5 3 4 (1) r (gs.map (·.1)) c1 EI where
  ok := rd_ok
  co := rd_completeE
  i32 := und_i32
  rs := rfl
  rt := rdrT
  i16o := one_i16
  f0 := fa88_0
  def_ := (def_skip Tryz.func51 rfl rfl rfl)
  ro := okR
  hi1 := by decide
  hio := by decide
  szo := by decide
  y := yok
  gsk := gsr
  gok := gokR
  unk := unkR
  M := rfl
  N := by decide
theorem cndW : CndAll Tryz.prog hn.u32 Tryz.f28.ntmps (7 + a.k) (gs.map (·.2)) (M1 + 8 + a.t + 1) (pc (pc d1 [0, 1, 0]) [1]) := ⟨cnd_len (int := 3) fa88_3 one86 ⟨_, Tryz.underlying86⟩ (by decide) (by decide) (by kernel_rfl), apk_of numT (by decide) (by decide) (by kernel_rfl), trivial⟩
theorem sizW : SizAll Tryz.prog hn Fr Tryz.f28.ntmps (gs.map (·.2)) (7 + a.k + 3) (M1 + 8 + a.t + 1 + TA.tcs (gs.map (·.2)) + 10 + 7) (pc (pc (pc (pc (pc (pc d1 [0, 1, 0]) [1]) (pth1 (gs.map (·.2)).length)) [1, 0]) [1, 0, 0, 1, 1, 0, 0]) [1, 1, 0]) := ⟨siz_of hFr mixed (by kernel_rfl) (by kernel_rfl) uvw Tryz.underlying22 hi8 und_int und_u32 (by decide) (by decide) (by decide) (by kernel_rfl), trivial⟩
theorem msgW : MsgWT Tryz.prog hn Z Fr 88 42 M1 Tryz.f28.ntmps 4 (1) a (gs.map (·.2)) d1 where
  int := und_int
  u32 := und_u32
  i16o := one_i16
  f0 := fa88_0
  ro := okW
  tg := { hFr := hFr, sl := ⟨_, Tryz.underlying22⟩, uv := uvw, uvU := uvF, fl := tags_len, fe := tags_each, ne := by decide, one := one_u32, ksS := ⟨4, _, sl_u32⟩, fT := fa88_4, gsk := gsw, uq := uniW, cnd := cndW, siz := sizW, fr := .inl (by decide), short := by decide }
  M := rfl
  N := by decide
theorem plain_of {F : Nat} {fn : Func} (hf : Tryz.prog.funcs[F]? = some fn) (hb : fn.body.isNone = false) (hn : (fn.name == "runtime.NumGoroutine") = false) : Plain Tryz.prog F := ⟨fn, hf, hb, hn⟩
theorem prs0 : PairOk tg0 ta0 := ⟨rfl, rfl, rfl, rfl, fun ver => rfl⟩
theorem prsA : ∀ x ∈ gs, PairOk x.1 x.2 := by
  intro x hx
  simp only [gs, List.mem_cons, List.not_mem_nil, or_false] at hx
  rcases hx with rfl
  all_goals first | exact prs0
theorem agh : AgH Tryz.prog gn hn Y Z tgK Fr 88 54 51 42 M0 Tryz.f53.ntmps 5 3 4 (1) r a gs c1 M1 Tryz.f28.ntmps d1 EI 1 22 51 53 27 28 where
  hr := msgR
  hw := msgW
  prs := prsA
  uq := by simp [gs, tg0]
  gl := by decide
  hk := und_tgK
  ma := fun ver flex => by cases flex <;> rfl
  rdP := plain_of Tryz.func27 rfl rfl
  wrP := plain_of Tryz.func28 rfl rfl
  rd := fun h => RF_calls Tryz.func27 bD codeD Tryz.results27 Tryz.ntmps27 (plain_of Tryz.func53 rfl rfl) h
  rf := ⟨_, bR, Tryz.func53, codeR, Tryz.results53, rfl⟩
  wf := ⟨_, bW, Tryz.func28, codeW, Tryz.results28, rfl⟩
  slT := Tryz.underlying22
  u8 := info_u8
  er := Tryz.underlying51
  keep := errI_keep (L := 1 + 1) (Nat.lt_succ_self _)
  lt := fun w h => h.2
  n1 := by decide
noncomputable def bP : Code := (Tryz.f22.body).getD .skip
noncomputable def bS : Code := (Tryz.f26.body).getD .skip
noncomputable def bV : Code := (Tryz.f23.body).getD .skip
noncomputable def bX : Code := (Tryz.f11.body).getD .skip
noncomputable def bA : Code := (Tryz.f13.body).getD .skip
theorem codeP : Tryz.f22.body = some (gNP 51 88 54 bP) := by kernel_rfl
theorem codeS : Tryz.f26.body = some (gSV 88 42 bS) := by kernel_rfl
theorem codeV : Tryz.f23.body = some (gK (.int .i16 0) (.int .i16 1) bV) := by kernel_rfl
theorem codeX : Tryz.f11.body = some (gMx 22 23 54 42 3 bX) := by kernel_rfl
theorem codeA : Tryz.f13.body = some (gAgM 22 26 27 28 54 22 51 51 3 42 bA) := by kernel_rfl
theorem alc : Alc Tryz.prog 88 #[.int .i16 0, .int .i16 0, .slice none 0 0, .slice none 0 0, .map none] := fun o a w h => by
  obtain ⟨d, op, t, p, af, g⟩ := o
  simp only at h
  subst h
  kernel_rfl
def allK : List Nat := 0 :: 4 :: ((gs.map (·.1)).map (·.o) ++ r.nils.map (·.1))
theorem new_all (w : World) : Calls Tryz.prog 22 #[] w fun e w' => e = .returned (.pointer (some ⟨w.heap.size, 0, none⟩)) ∧ Only (fun _ => False) w w' ∧ Blk w' w.heap.size 5 ∧ ∀ k ∈ allK, w'.cell? ⟨w.heap.size, k, none⟩ = (#[.int .i16 0, .int .i16 0, .slice none 0 0, .slice none 0 0, .map none] : Array Value)[k]? :=
  NP_calls (ks := allK) Tryz.func22 bP codeP Tryz.results22 Tryz.ntmps22 alc rfl (def_skip Tryz.func51 rfl rfl rfl)
theorem new_calls (w : World) : Calls Tryz.prog 22 #[] w fun e w' => e = .returned (.pointer (some ⟨w.heap.size, 0, none⟩)) ∧ Only (fun _ => False) w w' ∧ Blk w' w.heap.size 5 ∧ (∀ q ∈ r.nils, w'.cell? ⟨w.heap.size, q.1, none⟩ = some (nilV q.2)) ∧ (∀ x ∈ gs, w'.cell? ⟨w.heap.size, x.1.o, none⟩ = some (.slice none 0 0)) ∧ w'.cell? ⟨w.heap.size, 4, none⟩ = some (.map none) :=
  (new_all w).mono fun e w' h => ⟨h.1, h.2.1, h.2.2.1, fun q hq => (h.2.2.2 q.1 (List.mem_cons_of_mem _ (List.mem_cons_of_mem _ (List.mem_append.2 (.inr (List.mem_map_of_mem hq)))))).trans (nilsZ rfl q hq),
    fun x hx => (h.2.2.2 x.1.o (List.mem_cons_of_mem _ (List.mem_cons_of_mem _ (List.mem_append.2 (.inl (List.mem_map_of_mem (List.mem_map_of_mem hx))))))).trans (by
      simp only [gs, List.mem_cons, List.not_mem_nil, or_false] at hx
      rcases hx with rfl <;> rfl), (h.2.2.2 4 (List.mem_cons_of_mem _ (List.mem_cons_self ..))).trans rfl⟩
theorem set_calls (w : World) (b : Nat) (n : Int) (hb : Blk w b 5) : Calls Tryz.prog 26 #[.pointer (some ⟨b, 0, none⟩), .int .i16 n] w fun e w' => e = .returned (.tuple #[]) ∧ Only (· = b) w w' ∧ Upd b 0 1 w w' ∧ w'.cell? ⟨b, 0, none⟩ = some (.int .i16 n) :=
  SV_calls Tryz.func26 bS codeS Tryz.results26 Tryz.ntmps26 fa88_0 hb (by decide)
theorem max_calls (w : World) : Calls Tryz.prog 11 #[] w fun e w' => e = .returned (.int .i64 1) ∧ Only (fun _ => False) w w' :=
  Mx_calls Tryz.func11 bX codeX Tryz.results11 Tryz.ntmps11 und_int Tryz.underlying42 (plain_of Tryz.func22 rfl rfl) (plain_of Tryz.func23 rfl rfl) ((new_calls w).mono fun e w' h => ⟨_, h.1, h.2.1⟩) fun v w' => K_calls Tryz.func23 bV codeV Tryz.results23 Tryz.ntmps23
theorem ei_up {w w' : World} (h : EI w) (O : Only (fun _ => False) w w') : EI w' := agh.keep w w' h (O.mono fun _ _ h => h.elim)
/-- What was written: the fields, the lists with a tag, the unknown tags. -/
structure FullT (ver : Int) (bs : List UInt8) : Prop where
  ex : ∃ (x : Val) (gv : List ((TG × TA) × Option (List Val))) (un : List (Nat × List UInt8)), gv.map (·.1) = gs ∧ GhT ver (decide (ver ≥ (1))) (gs.map (·.1)) gv un ∧ (r.m ver (decide (ver ≥ (1)))).w.ok = true ∧ Kf.wf (r.m ver (decide (ver ≥ (1)))).w x ∧
    bs = enc (r.m ver (decide (ver ≥ (1)))).w x ++ tgB (decide (ver ≥ (1))) (knV ver (decide (ver ≥ (1))) gv ++ un) ∧ (enc (r.m ver (decide (ver ≥ (1)))).w x).length + (encTags (knV ver (decide (ver ≥ (1))) gv ++ un)).length + 100 ≤ lim2
/-- What impl.AgainEndQuorumEpochResponse comes to. -/
theorem again {w : World} {vs : Value} {B : Nat} {ver : Int} {q s : List UInt8} (hB : B ≤ w.heap.size) (hv : Oc w B vs q) (hr : IntKind.i16.wrap ver = ver) (hv0 : 0 ≤ ver) (h : FullT ver (q ++ s)) (hl : q.length ≤ lim) (hI : EI w) : Calls Tryz.prog 13 #[.int .i64 ver, vs] w fun e w' => (s = [] ∧ FullP 5 q w e w') ∨ (s ≠ [] ∧ CutP w e w') := by
  obtain ⟨x, gv, un, h1, h2, h3, h4, h5, h6⟩ := h.ex
  exact AgT_calls agh Tryz.func13 bA codeA Tryz.results13 Tryz.ntmps13 (plain_of Tryz.func22 rfl rfl) (plain_of Tryz.func26 rfl rfl) und_int Tryz.underlying42 new_calls set_calls hB hv hl hI hr hv0 h1 h2 h3 h4 h5 h6
theorem full {w : World} {vs : Value} {B : Nat} {ver : Int} {bs : List UInt8} (hB : B ≤ w.heap.size) (hv : Oc w B vs bs) (hr : IntKind.i16.wrap ver = ver) (hv0 : 0 ≤ ver) (h : FullT ver bs) (hl : bs.length ≤ lim) (hI : EI w) : Calls Tryz.prog 13 #[.int .i64 ver, vs] w (FullP 5 bs w) :=
  (again (q := bs) (s := []) hB hv hr hv0 (by rw [List.append_nil]; exact h) hl hI).mono fun e w' k => by
    rcases k with k | k
    · exact k.2
    · exact absurd rfl k.1
theorem cut {w : World} {vs : Value} {B : Nat} {ver : Int} {q s : List UInt8} (hB : B ≤ w.heap.size) (hv : Oc w B vs q) (hr : IntKind.i16.wrap ver = ver) (hv0 : 0 ≤ ver) (h : FullT ver (q ++ s)) (hs : s ≠ []) (hl : q.length ≤ lim) (hI : EI w) : Calls Tryz.prog 13 #[.int .i64 ver, vs] w (CutP w) :=
  (again hB hv hr hv0 h hl hI).mono fun e w' k => by
    rcases k with k | k
    · exact absurd k.1 hs
    · exact k.2
end Go.Proofs.YtpefipjgcpchaaaGreatDoorR.Kf.MEndQuorumEpochResponse
