/- DescribeConfigsResponse: its schema; what the thin package's functions over it come to. -/
import Derived.Test.YtffgggfendppiaaGreatDoorMsgB
import Derived.Test.YtffgggfendppiaaGreatDoorLawA
import Derived.Test.YtffgggfendppiaaGreatDoorDfA
import Derived.Handy
import Derived.Test.YtffgggfendppiaaGreatDoorTagC
import Derived.Test.YtffgggfendppiaaGreatDoorTagG
import Derived.Test.YtffgggfendppiaaGreatDoorKbT
namespace Go.Proofs.YtffgggfendppiaaGreatDoor.Kf.MDescribeConfigsResponse
set_option linter.unusedVariables false
set_option linter.unusedSimpArgs false
set_option maxRecDepth 100000
open Go Go.RowKit

def r : R := .val .all 1 1 21 (.prim .i32 116) (.arrS .all 2 2 109 72 [.int .i16 0, .pointer none, .int .i8 0, .string ⟨#[]⟩, .slice none 0 0, .map none] (.two 117 118) none 142 112 115 (.val .all 0 0 42 (.prim .i16 122) (.val .all 1 1 87 (.str3 true 123 124 125 126) (.val .all 2 2 89 (.en .i8 (.int .i8 0) 127) (.val .all 3 3 9 (.str2 false 128 129 130 131) (.arrS .all 4 4 113 80 [.string ⟨#[]⟩, .pointer none, .bool false, .bool false, .int .i8 0, .bool false, .slice none 0 0, .int .i8 0, .pointer none, .map none] (.two 117 118) none 143 116 121 (.val .all 0 0 9 (.str2 false 128 129 130 131) (.val .all 1 1 87 (.str3 true 123 124 125 126) (.val .all 2 2 4 (.prim .bool 140) (.val (.rng 0 0) 3 3 4 (.prim .bool 140) (.val (.ge 1) 4 4 117 (.en .i8 (.int .i8 0) 127) (.val .all 5 5 4 (.prim .bool 140) (.arrS (.ge 1) 6 6 118 40 [.string ⟨#[]⟩, .pointer none, .int .i8 0, .map none] (.two 117 118) none 144 122 124 (.val .all 0 0 9 (.str2 false 128 129 130 131) (.val .all 1 1 87 (.str3 true 123 124 125 126) (.val .all 2 2 117 (.en .i8 (.int .i8 0) 127) (.tags 3 3 72 132 .done)))) (.val (.ge 3) 7 7 119 (.en .i8 (.int .i8 0) 127) (.val (.ge 3) 8 8 87 (.str3 true 123 124 125 126) (.tags 9 9 72 132 .done)))))))))) (.tags 5 5 72 132 .done)))))) (.tags 3 3 72 132 .done))
def a : A := .val .all 1 1 21 (.one (.prim .i32) 81) (.arrS .all 2 2 109 72 [.int .i16 0, .pointer none, .int .i8 0, .string ⟨#[]⟩, .slice none 0 0, .map none] none (.two false 82 83) 115 (.val .all 0 0 42 (.one (.prim .i16) 84) (.val .all 1 1 87 (.two (.str true true) (.str false true) 85 86) (.val .all 2 2 89 (.en (.prim .i8) 87 88) (.val .all 3 3 9 (.two (.str true false) (.str false false) 88 89) (.arrS .all 4 4 113 80 [.string ⟨#[]⟩, .pointer none, .bool false, .bool false, .int .i8 0, .bool false, .slice none 0 0, .int .i8 0, .pointer none, .map none] none (.two false 82 83) 121 (.val .all 0 0 9 (.two (.str true false) (.str false false) 88 89) (.val .all 1 1 87 (.two (.str true true) (.str false true) 85 86) (.val .all 2 2 4 (.one (.prim .bool) 96) (.val (.rng 0 0) 3 3 4 (.one (.prim .bool) 96) (.val (.ge 1) 4 4 117 (.en (.prim .i8) 87 88) (.val .all 5 5 4 (.one (.prim .bool) 96) (.arrS (.ge 1) 6 6 118 40 [.string ⟨#[]⟩, .pointer none, .int .i8 0, .map none] none (.two false 82 83) 124 (.val .all 0 0 9 (.two (.str true false) (.str false false) 88 89) (.val .all 1 1 87 (.two (.str true true) (.str false true) 85 86) (.val .all 2 2 117 (.en (.prim .i8) 87 88) (.tags 3 3 72 91 90 92 .done)))) (.val (.ge 3) 7 7 119 (.en (.prim .i8) 87 88) (.val (.ge 3) 8 8 87 (.two (.str true true) (.str false true) 85 86) (.tags 9 9 72 91 90 92 .done)))))))))) (.tags 5 5 72 91 90 92 .done)))))) (.tags 3 3 72 91 90 92 .done))
noncomputable def bR : Code := (Tryz.f99.body).getD .skip
noncomputable def bW : Code := (Tryz.f50.body).getD .skip
noncomputable def bD : Code := (Tryz.f49.body).getD .skip
def M0 : Nat := (if ((some 4) : Option Int).isSome then 11 else 10) + r.k
def M1 : Nat := Nat.max ((if ((some 4) : Option Int).isSome then 7 else 6) + a.k) 7
theorem mwa : (fun ver => a.m ver (flexOf (some 4) ver)) = MwM r (some 4) := by
  funext ver
  unfold MwM
  generalize flexOf (some 4) ver = flex
  cases flex <;> rfl
theorem codeR : Tryz.f99.body = some (gRead gn 111 57 97 42 M0 none (some 4) r bR) := by kernel_rfl
theorem codeW : Tryz.f50.body = some (gWrite hn 111 42 M1 (some 4) a bW) := by kernel_rfl
theorem codeD : Tryz.f49.body = some (gRF 99 57 22 4 bD) := by kernel_rfl
theorem sz21 : (Tryz.prog.info? 21).map (·.size) = some 1 := by kernel_rfl
theorem fa111_1 : FieldAt Tryz.prog 111 1 1 21 1 := fieldAt_of Tryz.underlying111 rfl rfl rfl sz21 (by decide)
theorem sz109 : (Tryz.prog.info? 109).map (·.size) = some 1 := by kernel_rfl
theorem fa111_2 : FieldAt Tryz.prog 111 2 2 109 1 := fieldAt_of Tryz.underlying111 rfl rfl rfl sz109 (by decide)
theorem sl109 : Sl Tryz.prog 109 6 72 [.int .i16 0, .pointer none, .int .i8 0, .string ⟨#[]⟩, .slice none 0 0, .map none] := sl_of Tryz.underlying109 (by kernel_rfl) sz109 (by decide) rfl
theorem sz42 : (Tryz.prog.info? 42).map (·.size) = some 1 := by kernel_rfl
theorem fa115_0 : FieldAt Tryz.prog 115 0 0 42 1 := fieldAt_of Tryz.underlying115 rfl rfl rfl sz42 (by decide)
theorem sz87 : (Tryz.prog.info? 87).map (·.size) = some 1 := by kernel_rfl
theorem fa115_1 : FieldAt Tryz.prog 115 1 1 87 1 := fieldAt_of Tryz.underlying115 rfl rfl rfl sz87 (by decide)
theorem sz89 : (Tryz.prog.info? 89).map (·.size) = some 1 := by kernel_rfl
theorem fa115_2 : FieldAt Tryz.prog 115 2 2 89 1 := fieldAt_of Tryz.underlying115 rfl rfl rfl sz89 (by decide)
theorem sz9 : (Tryz.prog.info? 9).map (·.size) = some 1 := by kernel_rfl
theorem fa115_3 : FieldAt Tryz.prog 115 3 3 9 1 := fieldAt_of Tryz.underlying115 rfl rfl rfl sz9 (by decide)
theorem sz113 : (Tryz.prog.info? 113).map (·.size) = some 1 := by kernel_rfl
theorem fa115_4 : FieldAt Tryz.prog 115 4 4 113 1 := fieldAt_of Tryz.underlying115 rfl rfl rfl sz113 (by decide)
theorem sl113 : Sl Tryz.prog 113 10 80 [.string ⟨#[]⟩, .pointer none, .bool false, .bool false, .int .i8 0, .bool false, .slice none 0 0, .int .i8 0, .pointer none, .map none] := sl_of Tryz.underlying113 (by kernel_rfl) sz113 (by decide) rfl
theorem fa121_0 : FieldAt Tryz.prog 121 0 0 9 1 := fieldAt_of Tryz.underlying121 rfl rfl rfl sz9 (by decide)
theorem fa121_1 : FieldAt Tryz.prog 121 1 1 87 1 := fieldAt_of Tryz.underlying121 rfl rfl rfl sz87 (by decide)
theorem sz4 : (Tryz.prog.info? 4).map (·.size) = some 1 := by kernel_rfl
theorem fa121_2 : FieldAt Tryz.prog 121 2 2 4 1 := fieldAt_of Tryz.underlying121 rfl rfl rfl sz4 (by decide)
theorem fa121_3 : FieldAt Tryz.prog 121 3 3 4 1 := fieldAt_of Tryz.underlying121 rfl rfl rfl sz4 (by decide)
theorem sz117 : (Tryz.prog.info? 117).map (·.size) = some 1 := by kernel_rfl
theorem fa121_4 : FieldAt Tryz.prog 121 4 4 117 1 := fieldAt_of Tryz.underlying121 rfl rfl rfl sz117 (by decide)
theorem fa121_5 : FieldAt Tryz.prog 121 5 5 4 1 := fieldAt_of Tryz.underlying121 rfl rfl rfl sz4 (by decide)
theorem sz118 : (Tryz.prog.info? 118).map (·.size) = some 1 := by kernel_rfl
theorem fa121_6 : FieldAt Tryz.prog 121 6 6 118 1 := fieldAt_of Tryz.underlying121 rfl rfl rfl sz118 (by decide)
theorem sl118 : Sl Tryz.prog 118 4 40 [.string ⟨#[]⟩, .pointer none, .int .i8 0, .map none] := sl_of Tryz.underlying118 (by kernel_rfl) sz118 (by decide) rfl
theorem fa124_0 : FieldAt Tryz.prog 124 0 0 9 1 := fieldAt_of Tryz.underlying124 rfl rfl rfl sz9 (by decide)
theorem fa124_1 : FieldAt Tryz.prog 124 1 1 87 1 := fieldAt_of Tryz.underlying124 rfl rfl rfl sz87 (by decide)
theorem fa124_2 : FieldAt Tryz.prog 124 2 2 117 1 := fieldAt_of Tryz.underlying124 rfl rfl rfl sz117 (by decide)
theorem sz72 : (Tryz.prog.info? 72).map (·.size) = some 1 := by kernel_rfl
theorem fa124_3 : FieldAt Tryz.prog 124 3 3 72 1 := fieldAt_of Tryz.underlying124 rfl rfl rfl sz72 (by decide)
theorem sz119 : (Tryz.prog.info? 119).map (·.size) = some 1 := by kernel_rfl
theorem fa121_7 : FieldAt Tryz.prog 121 7 7 119 1 := fieldAt_of Tryz.underlying121 rfl rfl rfl sz119 (by decide)
theorem fa121_8 : FieldAt Tryz.prog 121 8 8 87 1 := fieldAt_of Tryz.underlying121 rfl rfl rfl sz87 (by decide)
theorem fa121_9 : FieldAt Tryz.prog 121 9 9 72 1 := fieldAt_of Tryz.underlying121 rfl rfl rfl sz72 (by decide)
def dl_DescribeConfigsResponseResourceConfig : List DI := [.set ⟨4, 4, 117, .int .i8 (-1)⟩]
noncomputable def bDf_DescribeConfigsResponseResourceConfig : Code := (Tryz.f143.body).getD .skip
theorem def_DescribeConfigsResponseResourceConfig : DefC Tryz.prog 143 10 [6] :=
  def_set (T := 121) (l := dl_DescribeConfigsResponseResourceConfig) Tryz.func143 bDf_DescribeConfigsResponseResourceConfig (by kernel_rfl) Tryz.results143 Tryz.ntmps143 (by decide) rfl (fun x hx => by
    simp only [dl_DescribeConfigsResponseResourceConfig, List.mem_cons, List.not_mem_nil, or_false] at hx
    subst hx; exact ⟨fa121_4, rfl, rfl, by decide, by decide⟩)
theorem fa115_5 : FieldAt Tryz.prog 115 5 5 72 1 := fieldAt_of Tryz.underlying115 rfl rfl rfl sz72 (by decide)
theorem fa111_3 : FieldAt Tryz.prog 111 3 3 72 1 := fieldAt_of Tryz.underlying111 rfl rfl rfl sz72 (by decide)
theorem one21 : One Tryz.prog 21 := one_of Tryz.underlying21 rfl sz21
theorem one42 : One Tryz.prog 42 := one_of Tryz.underlying42 rfl sz42
theorem one87 : One Tryz.prog 87 := one_of Tryz.underlying87 rfl sz87
theorem one89 : One Tryz.prog 89 := one_of Tryz.underlying89 rfl sz89
theorem one9 : One Tryz.prog 9 := one_of Tryz.underlying9 rfl sz9
theorem one4 : One Tryz.prog 4 := one_of Tryz.underlying4 rfl sz4
theorem one117 : One Tryz.prog 117 := one_of Tryz.underlying117 rfl sz117
theorem one119 : One Tryz.prog 119 := one_of Tryz.underlying119 rfl sz119
theorem fa111_0 : FieldAt Tryz.prog 111 0 0 42 1 := fieldAt_of Tryz.underlying111 rfl rfl rfl sz42 (by decide)
theorem okR : r.ok Tryz.prog true 111 1 4 := ⟨by decide, NumC.rd (by decide) rd_int32, fun flex => fa111_1, ⟨by decide, ⟨rfl, rd_calen, rd_alen⟩, fa111_2, sl109, by decide, (def_skip Tryz.func142 rfl rfl rfl), nils_ok rfl, ⟨by decide, NumC.rd (by decide) rd_int16, fun flex => fa115_0, ⟨by decide, ⟨rfl, rd_cnstring, rd_nstring⟩, fun flex => fa115_1, ⟨by decide, NumC.rd (by decide) rd_int8, fun flex => fa115_2, ⟨by decide, ⟨rfl, rd_cstring, rd_string⟩, fun flex => fa115_3, ⟨by decide, ⟨rfl, rd_calen, rd_alen⟩, fa115_4, sl113, by decide, def_DescribeConfigsResponseResourceConfig, nils_ok rfl, ⟨by decide, ⟨rfl, rd_cstring, rd_string⟩, fun flex => fa121_0, ⟨by decide, ⟨rfl, rd_cnstring, rd_nstring⟩, fun flex => fa121_1, ⟨by decide, NumC.rd (by decide) rd_bool, fun flex => fa121_2, ⟨by decide, NumC.rd (by decide) rd_bool, fun flex => fa121_3, ⟨by decide, NumC.rd (by decide) rd_int8, fun flex => fa121_4, ⟨by decide, NumC.rd (by decide) rd_bool, fun flex => fa121_5, ⟨by decide, ⟨rfl, rd_calen, rd_alen⟩, fa121_6, sl118, by decide, (def_skip Tryz.func144 rfl rfl rfl), nils_ok rfl, ⟨by decide, ⟨rfl, rd_cstring, rd_string⟩, fun flex => fa124_0, ⟨by decide, ⟨rfl, rd_cnstring, rd_nstring⟩, fun flex => fa124_1, ⟨by decide, NumC.rd (by decide) rd_int8, fun flex => fa124_2, ⟨by decide, rfl, rd_tags, fa124_3, done_ok (by decide)⟩⟩⟩⟩, ⟨by decide, NumC.rd (by decide) rd_int8, fun flex => fa121_7, ⟨by decide, ⟨rfl, rd_cnstring, rd_nstring⟩, fun flex => fa121_8, ⟨by decide, rfl, rd_tags, fa121_9, done_ok (by decide)⟩⟩⟩⟩⟩⟩⟩⟩⟩⟩, ⟨by decide, rfl, rd_tags, fa115_5, done_ok (by decide)⟩⟩⟩⟩⟩⟩, ⟨by decide, rfl, rd_tags, fa111_3, done_ok (by decide)⟩⟩⟩
theorem okW : a.ok Tryz.prog 5 true true 111 := ⟨app_i32C, fun flex => ⟨fa111_1, (.inl ⟨one21, rfl, fun _ _ => rfl⟩)⟩, ⟨rfl, ⟨rfl, len_compact, len_plain⟩, fa111_2, sl109, ⟨app_i16C, fun flex => ⟨fa115_0, (.inl ⟨one42, rfl, fun _ _ => rfl⟩)⟩, ⟨⟨rfl, app_cnstrC, app_nstrC⟩, fun flex => by cases flex <;> exact ⟨fa115_1, (.inl ⟨one87, rfl, fun _ _ => rfl⟩)⟩, ⟨app_i8C, fun flex => ⟨fa115_2, (.inl ⟨one89, rfl, fun _ _ => rfl⟩)⟩, ⟨⟨rfl, app_cstrC, app_strC⟩, fun flex => by cases flex <;> exact ⟨fa115_3, (.inl ⟨one9, rfl, fun _ _ => rfl⟩)⟩, ⟨rfl, ⟨rfl, len_compact, len_plain⟩, fa115_4, sl113, ⟨⟨rfl, app_cstrC, app_strC⟩, fun flex => by cases flex <;> exact ⟨fa121_0, (.inl ⟨one9, rfl, fun _ _ => rfl⟩)⟩, ⟨⟨rfl, app_cnstrC, app_nstrC⟩, fun flex => by cases flex <;> exact ⟨fa121_1, (.inl ⟨one87, rfl, fun _ _ => rfl⟩)⟩, ⟨app_boolC, fun flex => ⟨fa121_2, (.inl ⟨one4, rfl, fun _ _ => rfl⟩)⟩, ⟨app_boolC, fun flex => ⟨fa121_3, (.inl ⟨one4, rfl, fun _ _ => rfl⟩)⟩, ⟨app_i8C, fun flex => ⟨fa121_4, (.inl ⟨one117, rfl, fun _ _ => rfl⟩)⟩, ⟨app_boolC, fun flex => ⟨fa121_5, (.inl ⟨one4, rfl, fun _ _ => rfl⟩)⟩, ⟨rfl, ⟨rfl, len_compact, len_plain⟩, fa121_6, sl118, ⟨⟨rfl, app_cstrC, app_strC⟩, fun flex => by cases flex <;> exact ⟨fa124_0, (.inl ⟨one9, rfl, fun _ _ => rfl⟩)⟩, ⟨⟨rfl, app_cnstrC, app_nstrC⟩, fun flex => by cases flex <;> exact ⟨fa124_1, (.inl ⟨one87, rfl, fun _ _ => rfl⟩)⟩, ⟨app_i8C, fun flex => ⟨fa124_2, (.inl ⟨one117, rfl, fun _ _ => rfl⟩)⟩, ⟨rfl, fa124_3, tags_len, app_uvarint, tags_each, trivial⟩⟩⟩⟩, ⟨app_i8C, fun flex => ⟨fa121_7, (.inl ⟨one119, rfl, fun _ _ => rfl⟩)⟩, ⟨⟨rfl, app_cnstrC, app_nstrC⟩, fun flex => by cases flex <;> exact ⟨fa121_8, (.inl ⟨one87, rfl, fun _ _ => rfl⟩)⟩, ⟨rfl, fa121_9, tags_len, app_uvarint, tags_each, trivial⟩⟩⟩⟩⟩⟩⟩⟩⟩⟩, ⟨rfl, fa115_5, tags_len, app_uvarint, tags_each, trivial⟩⟩⟩⟩⟩⟩, ⟨rfl, fa111_3, tags_len, app_uvarint, tags_each, trivial⟩⟩⟩
theorem msgR : MsgR Tryz.prog gn 111 57 97 42 M0 Tryz.f99.ntmps 4 4 none (some 4) r EI :=
  ⟨rd_ok, rd_completeE, und_i32, rdrT, one_i16, fa111_0, (def_skip Tryz.func97 rfl rfl rfl), fun F h => (by cases h), okR, by decide, by decide, by decide, rfl, by decide⟩
theorem msgW : MsgW Tryz.prog hn true 111 42 M1 Tryz.f50.ntmps (some 4) a := ⟨und_int, und_u32, one_i16, fa111_0, okW, rfl, by decide, by decide⟩
theorem plain_of {F : Nat} {fn : Func} (hf : Tryz.prog.funcs[F]? = some fn) (hb : fn.body.isNone = false) (hn : (fn.name == "runtime.NumGoroutine") = false) : Plain Tryz.prog F := ⟨fn, hf, hb, hn⟩
theorem agc : AgC Tryz.prog 5 22 52 49 50 1 EI none (some 4) r (MwM r (some 4)) vlM 4 :=
  mwa ▸ AgC.mk' (sl := 22) (bo := 4) msgR msgW Tryz.func99 bR codeR Tryz.results99 rfl (plain_of Tryz.func99 rfl rfl) Tryz.func49 bD codeD Tryz.results49 Tryz.ntmps49 (plain_of Tryz.func49 rfl rfl)
    Tryz.func50 bW codeW Tryz.results50 rfl (plain_of Tryz.func50 rfl rfl) Tryz.underlying22 info_u8 Tryz.underlying52 (errI_keep (L := 1 + 1) (Nat.lt_succ_self _)) (fun w h => h.2) vlM
    (fun w D b lo hi ver x bs bs0 ver0 hv hc hH => by have e : a.m ver (flexOf (some 4) ver) = MwM r (some 4) ver := congrFun mwa ver; rw [e]; exact hH)
noncomputable def bP : Code := (Tryz.f45.body).getD .skip
noncomputable def bS : Code := (Tryz.f48.body).getD .skip
noncomputable def bV : Code := (Tryz.f46.body).getD .skip
noncomputable def bX : Code := (Tryz.f19.body).getD .skip
theorem codeP : Tryz.f45.body = some (gNP 97 111 57 bP) := by kernel_rfl
theorem codeS : Tryz.f48.body = some (gSV 111 42 bS) := by kernel_rfl
theorem codeV : Tryz.f46.body = some (gK (.int .i16 0) (.int .i16 4) bV) := by kernel_rfl
theorem codeX : Tryz.f19.body = some (gMx 45 46 57 42 3 bX) := by kernel_rfl
theorem alc : Alc Tryz.prog 111 #[.int .i16 0, .int .i32 0, .slice none 0 0, .map none] := fun o a w h => by
  obtain ⟨d, op, t, p, af, g⟩ := o
  simp only at h
  subst h
  kernel_rfl
theorem new_calls (w : World) : Calls Tryz.prog 45 #[] w fun e w' => e = .returned (.pointer (some ⟨w.heap.size, 0, none⟩)) ∧ Only (fun _ => False) w w' ∧ Blk w' w.heap.size 4 ∧ ∀ q ∈ r.nils, w'.cell? ⟨w.heap.size, q.1, none⟩ = some (nilV q.2) :=
  (NP_calls (ks := 0 :: r.nils.map (·.1)) Tryz.func45 bP codeP Tryz.results45 Tryz.ntmps45 alc rfl (def_skip Tryz.func97 rfl rfl rfl)).mono fun e w' h => ⟨h.1, h.2.1, h.2.2.1, fun q hq => (h.2.2.2 q.1 (List.mem_cons_of_mem _ (List.mem_map_of_mem hq))).trans (nilsZ rfl q hq)⟩
theorem set_calls (w : World) (b : Nat) (n : Int) (hb : Blk w b 4) : Calls Tryz.prog 48 #[.pointer (some ⟨b, 0, none⟩), .int .i16 n] w fun e w' => e = .returned (.tuple #[]) ∧ Only (· = b) w w' ∧ Upd b 0 1 w w' ∧ w'.cell? ⟨b, 0, none⟩ = some (.int .i16 n) :=
  SV_calls Tryz.func48 bS codeS Tryz.results48 Tryz.ntmps48 fa111_0 hb (by decide)
theorem max_calls (w : World) : Calls Tryz.prog 19 #[] w fun e w' => e = .returned (.int .i64 4) ∧ Only (fun _ => False) w w' :=
  Mx_calls Tryz.func19 bX codeX Tryz.results19 Tryz.ntmps19 und_int Tryz.underlying42 (plain_of Tryz.func45 rfl rfl) (plain_of Tryz.func46 rfl rfl) ((new_calls w).mono fun e w' h => ⟨_, h.1, h.2.1⟩) fun v w' => K_calls Tryz.func46 bV codeV Tryz.results46 Tryz.ntmps46
noncomputable def bA : Code := (Tryz.f21.body).getD .skip
theorem codeA : Tryz.f21.body = some (gAgM 45 48 49 50 57 22 52 52 3 42 bA) := by kernel_rfl
/-- What impl.AgainDescribeConfigsResponse comes to. -/
theorem again {w : World} {ver : Int} {vs : Value} {B : Nat} {bs : List UInt8} (hB : B ≤ w.heap.size) (hv : Oc w B vs bs) (hl : bs.length ≤ lim) (hI : EI w) (hr : IntKind.i16.wrap ver = ver) (hf : Fits none (some 4) ver r (MwM r (some 4)) vlM bs) :
    Calls Tryz.prog 21 #[.int .i64 ver, vs] w (AgQ 5 none (some 4) ver r (MwM r (some 4)) vlM w bs) :=
  AgM_calls agc Tryz.func21 bA codeA Tryz.results21 Tryz.ntmps21 (plain_of Tryz.func45 rfl rfl) (plain_of Tryz.func48 rfl rfl) und_int Tryz.underlying42 (by decide) (by decide) new_calls set_calls hB hv hl hI hr hf
theorem ei_up {w w' : World} (h : EI w) (O : Only (fun _ => False) w w') : EI w' := agc.keep w w' h (O.mono fun _ _ h => h.elim)
theorem full {w : World} {vs : Value} {B : Nat} {ver : Int} {bs : List UInt8} (hB : B ≤ w.heap.size) (hv : Oc w B vs bs) (hr : IntKind.i16.wrap ver = ver) (h : Full (r.m ver (flexOf (some 4) ver)).w bs) (hl : bs.length ≤ lim) (hI : EI w) : Calls Tryz.prog 21 #[.int .i64 ver, vs] w (FullP 5 bs w) :=
  have k := fullM h (by unfold lim at hl; unfold lim2; omega)
  (again hB hv hl hI hr k.1).mono fun e w' h => fullP_of (k.2 h)
theorem cut {w : World} {vs : Value} {B : Nat} {ver : Int} {q s : List UInt8} (hB : B ≤ w.heap.size) (hv : Oc w B vs q) (hr : IntKind.i16.wrap ver = ver) (h : Full (r.m ver (flexOf (some 4) ver)).w (q ++ s)) (hs : s ≠ []) (hl : q.length ≤ lim) (hI : EI w) : Calls Tryz.prog 21 #[.int .i64 ver, vs] w (CutP w) :=
  have k := cutM h hs hl
  (again hB hv hl hI hr k.1).mono fun e w' h => k.2 h
theorem any2 {ver : Int} {bs : List UInt8} (hr : IntKind.i16.wrap ver = ver) (hok : (r.m ver (flexOf (some 4) ver)).w.ok = true) (hl : bs.length ≤ 32767) :
    (∃ out, out.length ≤ bs.length ∧ Full (r.m ver (flexOf (some 4) ver)).w out ∧ ∀ {w : World} {vs : Value} {B : Nat}, B ≤ w.heap.size → Oc w B vs bs → EI w → Calls Tryz.prog 21 #[.int .i64 ver, vs] w (FullP 5 out w)) ∨
      ∀ {w : World} {vs : Value} {B : Nat}, B ≤ w.heap.size → Oc w B vs bs → EI w → Calls Tryz.prog 21 #[.int .i64 ver, vs] w (CutP w) := by
  have hf := (anyM hok hl).1
  have hll : bs.length ≤ lim := by unfold lim; omega
  rcases anyM2 hok hl with ⟨out, h1, h4, h5⟩ | h
  · exact .inl ⟨out, h1, h4, fun hB hv hI => (again hB hv hll hI hr hf).mono fun e w' h => h5 h⟩
  · exact .inr fun hB hv hI => (again hB hv hll hI hr hf).mono fun e w' hh => h hh
end Go.Proofs.YtffgggfendppiaaGreatDoor.Kf.MDescribeConfigsResponse
