/- DescribeGroupsResponse: its schema; what the thin package's functions over it come to. -/
import Derived.Test.YtoohbljhpfamlaaDoorMsgB
import Derived.Test.YtoohbljhpfamlaaDoorLawA
import Derived.Test.YtoohbljhpfamlaaDoorDfA
import Derived.Handy
import Derived.Test.YtoohbljhpfamlaaDoorTagC
import Derived.Test.YtoohbljhpfamlaaDoorTagG
import Derived.Test.YtoohbljhpfamlaaDoorKbT
namespace Go.Proofs.YtoohbljhpfamlaaDoor.Kf.MDescribeGroupsResponse
set_option linter.unusedVariables false
set_option linter.unusedSimpArgs false
set_option maxRecDepth 100000
open Go Go.RowKit

def r : R := .val (.ge 1) 1 1 21 (.prim .i32 102) (.arrS .all 2 2 134 120 [.int .i16 0, .pointer none, .string ⟨#[]⟩, .string ⟨#[]⟩, .string ⟨#[]⟩, .string ⟨#[]⟩, .slice none 0 0, .int .i32 0, .map none] (.two 103 104) none 139 137 140 (.val .all 0 0 29 (.prim .i16 119) (.val (.ge 6) 1 1 75 (.str3 true 120 121 122 123) (.val .all 2 2 9 (.str2 false 108 109 110 111) (.val .all 3 3 9 (.str2 false 108 109 110 111) (.val .all 4 4 9 (.str2 false 108 109 110 111) (.val .all 5 5 9 (.str2 false 108 109 110 111) (.arrS .all 6 6 138 112 [.string ⟨#[]⟩, .pointer none, .string ⟨#[]⟩, .string ⟨#[]⟩, .slice none 0 0, .slice none 0 0, .map none] (.two 103 104) none 140 141 143 (.val .all 0 0 9 (.str2 false 108 109 110 111) (.val (.ge 4) 1 1 75 (.str3 true 120 121 122 123) (.val .all 2 2 9 (.str2 false 108 109 110 111) (.val .all 3 3 9 (.str2 false 108 109 110 111) (.val .all 4 4 22 (.byt2 false 141 142) (.val .all 5 5 22 (.byt2 false 141 142) (.tags 6 6 55 113 .done))))))) (.val (.ge 3) 7 7 21 (.prim .i32 102) (.tags 8 8 55 113 .done))))))))) (.tags 3 3 55 113 .done))
def a : A := .val (.ge 1) 1 1 21 (.one (.prim .i32) 71) (.arrS .all 2 2 134 120 [.int .i16 0, .pointer none, .string ⟨#[]⟩, .string ⟨#[]⟩, .string ⟨#[]⟩, .string ⟨#[]⟩, .slice none 0 0, .int .i32 0, .map none] none (.two false 72 73) 140 (.val .all 0 0 29 (.one (.prim .i16) 81) (.val (.ge 6) 1 1 75 (.two (.str true true) (.str false true) 82 83) (.val .all 2 2 9 (.two (.str true false) (.str false false) 74 75) (.val .all 3 3 9 (.two (.str true false) (.str false false) 74 75) (.val .all 4 4 9 (.two (.str true false) (.str false false) 74 75) (.val .all 5 5 9 (.two (.str true false) (.str false false) 74 75) (.arrS .all 6 6 138 112 [.string ⟨#[]⟩, .pointer none, .string ⟨#[]⟩, .string ⟨#[]⟩, .slice none 0 0, .slice none 0 0, .map none] none (.two false 72 73) 143 (.val .all 0 0 9 (.two (.str true false) (.str false false) 74 75) (.val (.ge 4) 1 1 75 (.two (.str true true) (.str false true) 82 83) (.val .all 2 2 9 (.two (.str true false) (.str false false) 74 75) (.val .all 3 3 9 (.two (.str true false) (.str false false) 74 75) (.val .all 4 4 22 (.two (.byt true false) (.byt false false) 100 101) (.val .all 5 5 22 (.two (.byt true false) (.byt false false) 100 101) (.tags 6 6 55 77 76 78 .done))))))) (.val (.ge 3) 7 7 21 (.one (.prim .i32) 71) (.tags 8 8 55 77 76 78 .done))))))))) (.tags 3 3 55 77 76 78 .done))
noncomputable def bR : Code := (Tryd.f99.body).getD .skip
noncomputable def bW : Code := (Tryd.f68.body).getD .skip
noncomputable def bD : Code := (Tryd.f67.body).getD .skip
def M0 : Nat := (if ((some 5) : Option Int).isSome then 11 else 10) + r.k
def M1 : Nat := Nat.max ((if ((some 5) : Option Int).isSome then 7 else 6) + a.k) 7
theorem mwa : (fun ver => a.m ver (flexOf (some 5) ver)) = MwM r (some 5) := by
  funext ver
  unfold MwM
  generalize flexOf (some 5) ver = flex
  cases flex <;> rfl
theorem codeR : Tryd.f99.body = some (gRead gn 136 50 98 29 M0 none (some 5) r bR) := by kernel_rfl
theorem codeW : Tryd.f68.body = some (gWrite hn 136 29 M1 (some 5) a bW) := by kernel_rfl
theorem codeD : Tryd.f67.body = some (gRF 99 50 22 4 bD) := by kernel_rfl
theorem sz21 : (Tryd.prog.info? 21).map (·.size) = some 1 := by kernel_rfl
theorem fa136_1 : FieldAt Tryd.prog 136 1 1 21 1 := fieldAt_of Tryd.underlying136 rfl rfl rfl sz21 (by decide)
theorem sz134 : (Tryd.prog.info? 134).map (·.size) = some 1 := by kernel_rfl
theorem fa136_2 : FieldAt Tryd.prog 136 2 2 134 1 := fieldAt_of Tryd.underlying136 rfl rfl rfl sz134 (by decide)
theorem sl134 : Sl Tryd.prog 134 9 120 [.int .i16 0, .pointer none, .string ⟨#[]⟩, .string ⟨#[]⟩, .string ⟨#[]⟩, .string ⟨#[]⟩, .slice none 0 0, .int .i32 0, .map none] := sl_of Tryd.underlying134 (by kernel_rfl) sz134 (by decide) rfl
theorem sz29 : (Tryd.prog.info? 29).map (·.size) = some 1 := by kernel_rfl
theorem fa140_0 : FieldAt Tryd.prog 140 0 0 29 1 := fieldAt_of Tryd.underlying140 rfl rfl rfl sz29 (by decide)
theorem sz75 : (Tryd.prog.info? 75).map (·.size) = some 1 := by kernel_rfl
theorem fa140_1 : FieldAt Tryd.prog 140 1 1 75 1 := fieldAt_of Tryd.underlying140 rfl rfl rfl sz75 (by decide)
theorem sz9 : (Tryd.prog.info? 9).map (·.size) = some 1 := by kernel_rfl
theorem fa140_2 : FieldAt Tryd.prog 140 2 2 9 1 := fieldAt_of Tryd.underlying140 rfl rfl rfl sz9 (by decide)
theorem fa140_3 : FieldAt Tryd.prog 140 3 3 9 1 := fieldAt_of Tryd.underlying140 rfl rfl rfl sz9 (by decide)
theorem fa140_4 : FieldAt Tryd.prog 140 4 4 9 1 := fieldAt_of Tryd.underlying140 rfl rfl rfl sz9 (by decide)
theorem fa140_5 : FieldAt Tryd.prog 140 5 5 9 1 := fieldAt_of Tryd.underlying140 rfl rfl rfl sz9 (by decide)
theorem sz138 : (Tryd.prog.info? 138).map (·.size) = some 1 := by kernel_rfl
theorem fa140_6 : FieldAt Tryd.prog 140 6 6 138 1 := fieldAt_of Tryd.underlying140 rfl rfl rfl sz138 (by decide)
theorem sl138 : Sl Tryd.prog 138 7 112 [.string ⟨#[]⟩, .pointer none, .string ⟨#[]⟩, .string ⟨#[]⟩, .slice none 0 0, .slice none 0 0, .map none] := sl_of Tryd.underlying138 (by kernel_rfl) sz138 (by decide) rfl
theorem fa143_0 : FieldAt Tryd.prog 143 0 0 9 1 := fieldAt_of Tryd.underlying143 rfl rfl rfl sz9 (by decide)
theorem fa143_1 : FieldAt Tryd.prog 143 1 1 75 1 := fieldAt_of Tryd.underlying143 rfl rfl rfl sz75 (by decide)
theorem fa143_2 : FieldAt Tryd.prog 143 2 2 9 1 := fieldAt_of Tryd.underlying143 rfl rfl rfl sz9 (by decide)
theorem fa143_3 : FieldAt Tryd.prog 143 3 3 9 1 := fieldAt_of Tryd.underlying143 rfl rfl rfl sz9 (by decide)
theorem sz22 : (Tryd.prog.info? 22).map (·.size) = some 1 := by kernel_rfl
theorem fa143_4 : FieldAt Tryd.prog 143 4 4 22 1 := fieldAt_of Tryd.underlying143 rfl rfl rfl sz22 (by decide)
theorem fa143_5 : FieldAt Tryd.prog 143 5 5 22 1 := fieldAt_of Tryd.underlying143 rfl rfl rfl sz22 (by decide)
theorem sz55 : (Tryd.prog.info? 55).map (·.size) = some 1 := by kernel_rfl
theorem fa143_6 : FieldAt Tryd.prog 143 6 6 55 1 := fieldAt_of Tryd.underlying143 rfl rfl rfl sz55 (by decide)
theorem fa140_7 : FieldAt Tryd.prog 140 7 7 21 1 := fieldAt_of Tryd.underlying140 rfl rfl rfl sz21 (by decide)
theorem fa140_8 : FieldAt Tryd.prog 140 8 8 55 1 := fieldAt_of Tryd.underlying140 rfl rfl rfl sz55 (by decide)
def dl_DescribeGroupsResponseGroup : List DS := [⟨7, 7, 21, .int .i32 (-2147483648)⟩]
noncomputable def bDf_DescribeGroupsResponseGroup : Code := (Tryd.f139.body).getD .skip
theorem def_DescribeGroupsResponseGroup : DefC Tryd.prog 139 9 [6] :=
  def_set (T := 140) (l := dl_DescribeGroupsResponseGroup) Tryd.func139 bDf_DescribeGroupsResponseGroup (by kernel_rfl) Tryd.results139 Tryd.ntmps139 (by decide) rfl (fun x hx => by
    simp only [dl_DescribeGroupsResponseGroup, List.mem_cons, List.not_mem_nil, or_false] at hx
    subst hx; exact ⟨fa140_7, rfl, rfl, by decide, by decide⟩)
theorem fa136_3 : FieldAt Tryd.prog 136 3 3 55 1 := fieldAt_of Tryd.underlying136 rfl rfl rfl sz55 (by decide)
theorem one21 : One Tryd.prog 21 := one_of Tryd.underlying21 rfl sz21
theorem one29 : One Tryd.prog 29 := one_of Tryd.underlying29 rfl sz29
theorem one75 : One Tryd.prog 75 := one_of Tryd.underlying75 rfl sz75
theorem one9 : One Tryd.prog 9 := one_of Tryd.underlying9 rfl sz9
theorem one22 : One Tryd.prog 22 := one_of Tryd.underlying22 rfl sz22
theorem fa136_0 : FieldAt Tryd.prog 136 0 0 29 1 := fieldAt_of Tryd.underlying136 rfl rfl rfl sz29 (by decide)
theorem okR : r.ok Tryd.prog true 136 1 4 := ⟨by decide, NumC.rd (by decide) rd_int32, fun flex => fa136_1, ⟨by decide, ⟨rfl, rd_calen, rd_alen⟩, fa136_2, sl134, by decide, def_DescribeGroupsResponseGroup, nils_ok rfl, ⟨by decide, NumC.rd (by decide) rd_int16, fun flex => fa140_0, ⟨by decide, ⟨rfl, rd_cnstring, rd_nstring⟩, fun flex => fa140_1, ⟨by decide, ⟨rfl, rd_cstring, rd_string⟩, fun flex => fa140_2, ⟨by decide, ⟨rfl, rd_cstring, rd_string⟩, fun flex => fa140_3, ⟨by decide, ⟨rfl, rd_cstring, rd_string⟩, fun flex => fa140_4, ⟨by decide, ⟨rfl, rd_cstring, rd_string⟩, fun flex => fa140_5, ⟨by decide, ⟨rfl, rd_calen, rd_alen⟩, fa140_6, sl138, by decide, (def_skip Tryd.func140 rfl rfl rfl), nils_ok rfl, ⟨by decide, ⟨rfl, rd_cstring, rd_string⟩, fun flex => fa143_0, ⟨by decide, ⟨rfl, rd_cnstring, rd_nstring⟩, fun flex => fa143_1, ⟨by decide, ⟨rfl, rd_cstring, rd_string⟩, fun flex => fa143_2, ⟨by decide, ⟨rfl, rd_cstring, rd_string⟩, fun flex => fa143_3, ⟨by decide, ⟨rfl, rd_cbytes, rd_bytes⟩, fun flex => fa143_4, ⟨by decide, ⟨rfl, rd_cbytes, rd_bytes⟩, fun flex => fa143_5, ⟨by decide, rfl, rd_tags, fa143_6, done_ok (by decide)⟩⟩⟩⟩⟩⟩⟩, ⟨by decide, NumC.rd (by decide) rd_int32, fun flex => fa140_7, ⟨by decide, rfl, rd_tags, fa140_8, done_ok (by decide)⟩⟩⟩⟩⟩⟩⟩⟩⟩, ⟨by decide, rfl, rd_tags, fa136_3, done_ok (by decide)⟩⟩⟩
theorem okW : a.ok Tryd.prog 5 true true 136 := ⟨app_i32C, fun flex => ⟨fa136_1, (.inl ⟨one21, rfl, fun _ _ => rfl⟩)⟩, ⟨rfl, ⟨rfl, len_compact, len_plain⟩, fa136_2, sl134, ⟨app_i16C, fun flex => ⟨fa140_0, (.inl ⟨one29, rfl, fun _ _ => rfl⟩)⟩, ⟨⟨rfl, app_cnstrC, app_nstrC⟩, fun flex => by cases flex <;> exact ⟨fa140_1, (.inl ⟨one75, rfl, fun _ _ => rfl⟩)⟩, ⟨⟨rfl, app_cstrC, app_strC⟩, fun flex => by cases flex <;> exact ⟨fa140_2, (.inl ⟨one9, rfl, fun _ _ => rfl⟩)⟩, ⟨⟨rfl, app_cstrC, app_strC⟩, fun flex => by cases flex <;> exact ⟨fa140_3, (.inl ⟨one9, rfl, fun _ _ => rfl⟩)⟩, ⟨⟨rfl, app_cstrC, app_strC⟩, fun flex => by cases flex <;> exact ⟨fa140_4, (.inl ⟨one9, rfl, fun _ _ => rfl⟩)⟩, ⟨⟨rfl, app_cstrC, app_strC⟩, fun flex => by cases flex <;> exact ⟨fa140_5, (.inl ⟨one9, rfl, fun _ _ => rfl⟩)⟩, ⟨rfl, ⟨rfl, len_compact, len_plain⟩, fa140_6, sl138, ⟨⟨rfl, app_cstrC, app_strC⟩, fun flex => by cases flex <;> exact ⟨fa143_0, (.inl ⟨one9, rfl, fun _ _ => rfl⟩)⟩, ⟨⟨rfl, app_cnstrC, app_nstrC⟩, fun flex => by cases flex <;> exact ⟨fa143_1, (.inl ⟨one75, rfl, fun _ _ => rfl⟩)⟩, ⟨⟨rfl, app_cstrC, app_strC⟩, fun flex => by cases flex <;> exact ⟨fa143_2, (.inl ⟨one9, rfl, fun _ _ => rfl⟩)⟩, ⟨⟨rfl, app_cstrC, app_strC⟩, fun flex => by cases flex <;> exact ⟨fa143_3, (.inl ⟨one9, rfl, fun _ _ => rfl⟩)⟩, ⟨⟨rfl, app_cbytC, app_bytC⟩, fun flex => by cases flex <;> exact ⟨fa143_4, (.inl ⟨one22, rfl, fun _ _ => rfl⟩)⟩, ⟨⟨rfl, app_cbytC, app_bytC⟩, fun flex => by cases flex <;> exact ⟨fa143_5, (.inl ⟨one22, rfl, fun _ _ => rfl⟩)⟩, ⟨rfl, fa143_6, tags_len, app_uvarint, tags_each, trivial⟩⟩⟩⟩⟩⟩⟩, ⟨app_i32C, fun flex => ⟨fa140_7, (.inl ⟨one21, rfl, fun _ _ => rfl⟩)⟩, ⟨rfl, fa140_8, tags_len, app_uvarint, tags_each, trivial⟩⟩⟩⟩⟩⟩⟩⟩⟩, ⟨rfl, fa136_3, tags_len, app_uvarint, tags_each, trivial⟩⟩⟩
theorem msgR : MsgR Tryd.prog gn 136 50 98 29 M0 Tryd.f99.ntmps 4 4 none (some 5) r EI :=
  ⟨rd_ok, rd_completeE, und_i32, rdrT, one_i16, fa136_0, (def_skip Tryd.func98 rfl rfl rfl), fun F h => (by cases h), okR, by decide, by decide, by decide, rfl, by decide⟩
theorem msgW : MsgW Tryd.prog hn true 136 29 M1 Tryd.f68.ntmps (some 5) a := ⟨und_int, und_u32, one_i16, fa136_0, okW, rfl, by decide, by decide⟩
theorem plain_of {F : Nat} {fn : Func} (hf : Tryd.prog.funcs[F]? = some fn) (hb : fn.body.isNone = false) (hn : (fn.name == "runtime.NumGoroutine") = false) : Plain Tryd.prog F := ⟨fn, hf, hb, hn⟩
theorem agc : AgC Tryd.prog 5 22 35 67 68 1 EI none (some 5) r (MwM r (some 5)) vlM 4 :=
  mwa ▸ AgC.mk' (sl := 22) (bo := 4) msgR msgW Tryd.func99 bR codeR Tryd.results99 rfl (plain_of Tryd.func99 rfl rfl) Tryd.func67 bD codeD Tryd.results67 Tryd.ntmps67 (plain_of Tryd.func67 rfl rfl)
    Tryd.func68 bW codeW Tryd.results68 rfl (plain_of Tryd.func68 rfl rfl) Tryd.underlying22 info_u8 Tryd.underlying35 (errI_keep (L := 1 + 1) (Nat.lt_succ_self _)) (fun w h => h.2) vlM
    (fun w D b lo hi ver x bs bs0 ver0 hv hc hH => by have e : a.m ver (flexOf (some 5) ver) = MwM r (some 5) ver := congrFun mwa ver; rw [e]; exact hH)
noncomputable def bP : Code := (Tryd.f64.body).getD .skip
noncomputable def bS : Code := (Tryd.f66.body).getD .skip
noncomputable def bV : Code := (Tryd.f65.body).getD .skip
noncomputable def bX : Code := (Tryd.f27.body).getD .skip
theorem codeP : Tryd.f64.body = some (gNP 98 136 50 bP) := by kernel_rfl
theorem codeS : Tryd.f66.body = some (gSV 136 29 bS) := by kernel_rfl
theorem codeV : Tryd.f65.body = some (gK (.int .i16 0) (.int .i16 6) bV) := by kernel_rfl
theorem codeX : Tryd.f27.body = some (gMx 64 65 50 29 3 bX) := by kernel_rfl
theorem alc : Alc Tryd.prog 136 #[.int .i16 0, .int .i32 0, .slice none 0 0, .map none] := fun o a w h => by
  obtain ⟨d, op, t, p, af, g⟩ := o
  simp only at h
  subst h
  kernel_rfl
theorem new_calls (w : World) : Calls Tryd.prog 64 #[] w fun e w' => e = .returned (.pointer (some ⟨w.heap.size, 0, none⟩)) ∧ Only (fun _ => False) w w' ∧ Blk w' w.heap.size 4 ∧ ∀ q ∈ r.nils, w'.cell? ⟨w.heap.size, q, none⟩ = some (.slice none 0 0) :=
  (NP_calls (ks := 0 :: r.nils) Tryd.func64 bP codeP Tryd.results64 Tryd.ntmps64 alc rfl (def_skip Tryd.func98 rfl rfl rfl)).mono fun e w' h => ⟨h.1, h.2.1, h.2.2.1, fun q hq => (h.2.2.2 q (List.mem_cons_of_mem _ hq)).trans (nilsZ rfl q hq)⟩
theorem set_calls (w : World) (b : Nat) (n : Int) (hb : Blk w b 4) : Calls Tryd.prog 66 #[.pointer (some ⟨b, 0, none⟩), .int .i16 n] w fun e w' => e = .returned (.tuple #[]) ∧ Only (· = b) w w' ∧ Upd b 0 1 w w' ∧ w'.cell? ⟨b, 0, none⟩ = some (.int .i16 n) :=
  SV_calls Tryd.func66 bS codeS Tryd.results66 Tryd.ntmps66 fa136_0 hb (by decide)
theorem max_calls (w : World) : Calls Tryd.prog 27 #[] w fun e w' => e = .returned (.int .i64 6) ∧ Only (fun _ => False) w w' :=
  Mx_calls Tryd.func27 bX codeX Tryd.results27 Tryd.ntmps27 und_int Tryd.underlying29 (plain_of Tryd.func64 rfl rfl) (plain_of Tryd.func65 rfl rfl) ((new_calls w).mono fun e w' h => ⟨_, h.1, h.2.1⟩) fun v w' => K_calls Tryd.func65 bV codeV Tryd.results65 Tryd.ntmps65
noncomputable def bA : Code := (Tryd.f28.body).getD .skip
theorem codeA : Tryd.f28.body = some (gAgM 64 66 67 68 50 22 35 35 3 29 bA) := by kernel_rfl
/-- What impl.AgainDescribeGroupsResponse comes to. -/
theorem again {w : World} {ver : Int} {vs : Value} {B : Nat} {bs : List UInt8} (hB : B ≤ w.heap.size) (hv : Oc w B vs bs) (hl : bs.length ≤ lim) (hI : EI w) (hr : IntKind.i16.wrap ver = ver) (hf : Fits none (some 5) ver r (MwM r (some 5)) vlM bs) :
    Calls Tryd.prog 28 #[.int .i64 ver, vs] w (AgQ 5 none (some 5) ver r (MwM r (some 5)) vlM w bs) :=
  AgM_calls agc Tryd.func28 bA codeA Tryd.results28 Tryd.ntmps28 (plain_of Tryd.func64 rfl rfl) (plain_of Tryd.func66 rfl rfl) und_int Tryd.underlying29 (by decide) (by decide) new_calls set_calls hB hv hl hI hr hf
theorem ei_up {w w' : World} (h : EI w) (O : Only (fun _ => False) w w') : EI w' := agc.keep w w' h (O.mono fun _ _ h => h.elim)
theorem full {w : World} {vs : Value} {B : Nat} {ver : Int} {bs : List UInt8} (hB : B ≤ w.heap.size) (hv : Oc w B vs bs) (hr : IntKind.i16.wrap ver = ver) (h : Full (r.m ver (flexOf (some 5) ver)).w bs) (hl : bs.length ≤ lim) (hI : EI w) : Calls Tryd.prog 28 #[.int .i64 ver, vs] w (FullP 5 bs w) :=
  have k := fullM h (by unfold lim at hl; unfold lim2; omega)
  (again hB hv hl hI hr k.1).mono fun e w' h => fullP_of (k.2 h)
theorem cut {w : World} {vs : Value} {B : Nat} {ver : Int} {q s : List UInt8} (hB : B ≤ w.heap.size) (hv : Oc w B vs q) (hr : IntKind.i16.wrap ver = ver) (h : Full (r.m ver (flexOf (some 5) ver)).w (q ++ s)) (hs : s ≠ []) (hl : q.length ≤ lim) (hI : EI w) : Calls Tryd.prog 28 #[.int .i64 ver, vs] w (CutP w) :=
  have k := cutM h hs hl
  (again hB hv hl hI hr k.1).mono fun e w' h => k.2 h
theorem any2 {ver : Int} {bs : List UInt8} (hr : IntKind.i16.wrap ver = ver) (hok : (r.m ver (flexOf (some 5) ver)).w.ok = true) (hl : bs.length ≤ 32767) :
    (∃ out, out.length ≤ bs.length ∧ Full (r.m ver (flexOf (some 5) ver)).w out ∧ ∀ {w : World} {vs : Value} {B : Nat}, B ≤ w.heap.size → Oc w B vs bs → EI w → Calls Tryd.prog 28 #[.int .i64 ver, vs] w (FullP 5 out w)) ∨
      ∀ {w : World} {vs : Value} {B : Nat}, B ≤ w.heap.size → Oc w B vs bs → EI w → Calls Tryd.prog 28 #[.int .i64 ver, vs] w (CutP w) := by
  have hf := (anyM hok hl).1
  have hll : bs.length ≤ lim := by unfold lim; omega
  rcases anyM2 hok hl with ⟨out, h1, h4, h5⟩ | h
  · exact .inl ⟨out, h1, h4, fun hB hv hI => (again hB hv hll hI hr hf).mono fun e w' h => h5 h⟩
  · exact .inr fun hB hv hI => (again hB hv hll hI hr hf).mono fun e w' hh => h hh
end Go.Proofs.YtoohbljhpfamlaaDoor.Kf.MDescribeGroupsResponse
