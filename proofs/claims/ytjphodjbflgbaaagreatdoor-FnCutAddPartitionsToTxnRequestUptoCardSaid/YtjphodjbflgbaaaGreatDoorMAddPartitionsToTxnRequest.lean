/- AddPartitionsToTxnRequest: its schema; what the thin package's functions over it come to. -/
import Derived.Test.YtjphodjbflgbaaaGreatDoorMsgB
import Derived.Test.YtjphodjbflgbaaaGreatDoorLawA
import Derived.Test.YtjphodjbflgbaaaGreatDoorDfA
import Derived.Handy
import Derived.Test.YtjphodjbflgbaaaGreatDoorTagC
import Derived.Test.YtjphodjbflgbaaaGreatDoorTagG
import Derived.Test.YtjphodjbflgbaaaGreatDoorKbT
namespace Go.Proofs.YtjphodjbflgbaaaGreatDoor.Kf.MAddPartitionsToTxnRequest
set_option linter.unusedVariables false
set_option linter.unusedSimpArgs false
set_option maxRecDepth 100000
open Go Go.RowKit

def r : R := .val (.rng 0 3) 1 1 9 (.str2 false 119 120 121 122) (.val (.rng 0 3) 2 2 2 (.prim .i64 140) (.val (.rng 0 3) 3 3 42 (.prim .i16 113) (.arrS (.rng 0 3) 4 4 124 48 [.string ⟨#[]⟩, .slice none 0 0, .map none] (.two 114 115) none 141 129 132 (.val .all 0 0 9 (.str2 false 119 120 121 122) (.arrV .all 1 1 130 4 [.int .i32 0] (.two 114 115) none 21 (.prim .i32 123) (.tags 2 2 72 124 .done))) (.arrS (.ge 4) 5 5 125 64 [.string ⟨#[]⟩, .int .i64 0, .int .i16 0, .bool false, .slice none 0 0, .map none] (.two 114 115) none 142 133 136 (.val .all 0 0 9 (.str2 false 119 120 121 122) (.val .all 1 1 2 (.prim .i64 140) (.val .all 2 2 42 (.prim .i16 113) (.val .all 3 3 4 (.prim .bool 143) (.arrS .all 4 4 134 48 [.string ⟨#[]⟩, .slice none 0 0, .map none] (.two 114 115) none 144 138 139 (.val .all 0 0 9 (.str2 false 119 120 121 122) (.arrV .all 1 1 130 4 [.int .i32 0] (.two 114 115) none 21 (.prim .i32 123) (.tags 2 2 72 124 .done))) (.tags 5 5 72 124 .done)))))) (.tags 6 6 72 124 .done)))))
def a : A := .val (.rng 0 3) 1 1 9 (.two (.str true false) (.str false false) 84 85) (.val (.rng 0 3) 2 2 2 (.one (.prim .i64) 105) (.val (.rng 0 3) 3 3 42 (.one (.prim .i16) 81) (.arrS (.rng 0 3) 4 4 124 48 [.string ⟨#[]⟩, .slice none 0 0, .map none] none (.two false 82 83) 132 (.val .all 0 0 9 (.two (.str true false) (.str false false) 84 85) (.arrV .all 1 1 130 4 [.int .i32 0] none (.two false 82 83) 21 (.one (.prim .i32) 86) (.tags 2 2 72 88 87 89 .done))) (.arrS (.ge 4) 5 5 125 64 [.string ⟨#[]⟩, .int .i64 0, .int .i16 0, .bool false, .slice none 0 0, .map none] none (.two false 82 83) 136 (.val .all 0 0 9 (.two (.str true false) (.str false false) 84 85) (.val .all 1 1 2 (.one (.prim .i64) 105) (.val .all 2 2 42 (.one (.prim .i16) 81) (.val .all 3 3 4 (.one (.prim .bool) 106) (.arrS .all 4 4 134 48 [.string ⟨#[]⟩, .slice none 0 0, .map none] none (.two false 82 83) 139 (.val .all 0 0 9 (.two (.str true false) (.str false false) 84 85) (.arrV .all 1 1 130 4 [.int .i32 0] none (.two false 82 83) 21 (.one (.prim .i32) 86) (.tags 2 2 72 88 87 89 .done))) (.tags 5 5 72 88 87 89 .done)))))) (.tags 6 6 72 88 87 89 .done)))))
noncomputable def bR : Code := (Tryz.f104.body).getD .skip
noncomputable def bW : Code := (Tryz.f69.body).getD .skip
noncomputable def bD : Code := (Tryz.f68.body).getD .skip
def M0 : Nat := (if ((some 3) : Option Int).isSome then 11 else 10) + r.k
def M1 : Nat := Nat.max ((if ((some 3) : Option Int).isSome then 7 else 6) + a.k) 7
theorem mwa : (fun ver => a.m ver (flexOf (some 3) ver)) = MwM r (some 3) := by
  funext ver
  unfold MwM
  generalize flexOf (some 3) ver = flex
  cases flex <;> rfl
theorem codeR : Tryz.f104.body = some (gRead gn 127 63 102 42 M0 none (some 3) r bR) := by kernel_rfl
theorem codeW : Tryz.f69.body = some (gWrite hn 127 42 M1 (some 3) a bW) := by kernel_rfl
theorem codeD : Tryz.f68.body = some (gRF 104 63 22 4 bD) := by kernel_rfl
theorem sz9 : (Tryz.prog.info? 9).map (·.size) = some 1 := by kernel_rfl
theorem fa127_1 : FieldAt Tryz.prog 127 1 1 9 1 := fieldAt_of Tryz.underlying127 rfl rfl rfl sz9 (by decide)
theorem sz2 : (Tryz.prog.info? 2).map (·.size) = some 1 := by kernel_rfl
theorem fa127_2 : FieldAt Tryz.prog 127 2 2 2 1 := fieldAt_of Tryz.underlying127 rfl rfl rfl sz2 (by decide)
theorem sz42 : (Tryz.prog.info? 42).map (·.size) = some 1 := by kernel_rfl
theorem fa127_3 : FieldAt Tryz.prog 127 3 3 42 1 := fieldAt_of Tryz.underlying127 rfl rfl rfl sz42 (by decide)
theorem sz124 : (Tryz.prog.info? 124).map (·.size) = some 1 := by kernel_rfl
theorem fa127_4 : FieldAt Tryz.prog 127 4 4 124 1 := fieldAt_of Tryz.underlying127 rfl rfl rfl sz124 (by decide)
theorem sl124 : Sl Tryz.prog 124 3 48 [.string ⟨#[]⟩, .slice none 0 0, .map none] := sl_of Tryz.underlying124 (by kernel_rfl) sz124 (by decide) rfl
theorem fa132_0 : FieldAt Tryz.prog 132 0 0 9 1 := fieldAt_of Tryz.underlying132 rfl rfl rfl sz9 (by decide)
theorem sz130 : (Tryz.prog.info? 130).map (·.size) = some 1 := by kernel_rfl
theorem fa132_1 : FieldAt Tryz.prog 132 1 1 130 1 := fieldAt_of Tryz.underlying132 rfl rfl rfl sz130 (by decide)
theorem sl130 : Sl Tryz.prog 130 1 4 [.int .i32 0] := sl_of Tryz.underlying130 (by kernel_rfl) sz130 (by decide) rfl
theorem sz21 : (Tryz.prog.info? 21).map (·.size) = some 1 := by kernel_rfl
theorem sz72 : (Tryz.prog.info? 72).map (·.size) = some 1 := by kernel_rfl
theorem fa132_2 : FieldAt Tryz.prog 132 2 2 72 1 := fieldAt_of Tryz.underlying132 rfl rfl rfl sz72 (by decide)
theorem sz125 : (Tryz.prog.info? 125).map (·.size) = some 1 := by kernel_rfl
theorem fa127_5 : FieldAt Tryz.prog 127 5 5 125 1 := fieldAt_of Tryz.underlying127 rfl rfl rfl sz125 (by decide)
theorem sl125 : Sl Tryz.prog 125 6 64 [.string ⟨#[]⟩, .int .i64 0, .int .i16 0, .bool false, .slice none 0 0, .map none] := sl_of Tryz.underlying125 (by kernel_rfl) sz125 (by decide) rfl
theorem fa136_0 : FieldAt Tryz.prog 136 0 0 9 1 := fieldAt_of Tryz.underlying136 rfl rfl rfl sz9 (by decide)
theorem fa136_1 : FieldAt Tryz.prog 136 1 1 2 1 := fieldAt_of Tryz.underlying136 rfl rfl rfl sz2 (by decide)
theorem fa136_2 : FieldAt Tryz.prog 136 2 2 42 1 := fieldAt_of Tryz.underlying136 rfl rfl rfl sz42 (by decide)
theorem sz4 : (Tryz.prog.info? 4).map (·.size) = some 1 := by kernel_rfl
theorem fa136_3 : FieldAt Tryz.prog 136 3 3 4 1 := fieldAt_of Tryz.underlying136 rfl rfl rfl sz4 (by decide)
theorem sz134 : (Tryz.prog.info? 134).map (·.size) = some 1 := by kernel_rfl
theorem fa136_4 : FieldAt Tryz.prog 136 4 4 134 1 := fieldAt_of Tryz.underlying136 rfl rfl rfl sz134 (by decide)
theorem sl134 : Sl Tryz.prog 134 3 48 [.string ⟨#[]⟩, .slice none 0 0, .map none] := sl_of Tryz.underlying134 (by kernel_rfl) sz134 (by decide) rfl
theorem fa139_0 : FieldAt Tryz.prog 139 0 0 9 1 := fieldAt_of Tryz.underlying139 rfl rfl rfl sz9 (by decide)
theorem fa139_1 : FieldAt Tryz.prog 139 1 1 130 1 := fieldAt_of Tryz.underlying139 rfl rfl rfl sz130 (by decide)
theorem fa139_2 : FieldAt Tryz.prog 139 2 2 72 1 := fieldAt_of Tryz.underlying139 rfl rfl rfl sz72 (by decide)
theorem fa136_5 : FieldAt Tryz.prog 136 5 5 72 1 := fieldAt_of Tryz.underlying136 rfl rfl rfl sz72 (by decide)
theorem fa127_6 : FieldAt Tryz.prog 127 6 6 72 1 := fieldAt_of Tryz.underlying127 rfl rfl rfl sz72 (by decide)
theorem one9 : One Tryz.prog 9 := one_of Tryz.underlying9 rfl sz9
theorem one2 : One Tryz.prog 2 := one_of Tryz.underlying2 rfl sz2
theorem one42 : One Tryz.prog 42 := one_of Tryz.underlying42 rfl sz42
theorem one21 : One Tryz.prog 21 := one_of Tryz.underlying21 rfl sz21
theorem one4 : One Tryz.prog 4 := one_of Tryz.underlying4 rfl sz4
theorem fa127_0 : FieldAt Tryz.prog 127 0 0 42 1 := fieldAt_of Tryz.underlying127 rfl rfl rfl sz42 (by decide)
theorem okR : r.ok Tryz.prog true 127 1 7 := ⟨by decide, ⟨rfl, rd_cstring, rd_string⟩, fun flex => fa127_1, ⟨by decide, NumC.rd (by decide) rd_int64, fun flex => fa127_2, ⟨by decide, NumC.rd (by decide) rd_int16, fun flex => fa127_3, ⟨by decide, ⟨rfl, rd_calen, rd_alen⟩, fa127_4, sl124, by decide, (def_skip Tryz.func141 rfl rfl rfl), nils_ok rfl, ⟨by decide, ⟨rfl, rd_cstring, rd_string⟩, fun flex => fa132_0, ⟨by decide, NumC.rd (by decide) rd_int32, ⟨rfl, rd_calen, rd_alen⟩, fa132_1, sl130, by decide, info_of sz21, fun flex => rfl, ⟨by decide, rfl, rd_tags, fa132_2, done_ok (by decide)⟩⟩⟩, ⟨by decide, ⟨rfl, rd_calen, rd_alen⟩, fa127_5, sl125, by decide, (def_skip Tryz.func142 rfl rfl rfl), nils_ok rfl, ⟨by decide, ⟨rfl, rd_cstring, rd_string⟩, fun flex => fa136_0, ⟨by decide, NumC.rd (by decide) rd_int64, fun flex => fa136_1, ⟨by decide, NumC.rd (by decide) rd_int16, fun flex => fa136_2, ⟨by decide, NumC.rd (by decide) rd_bool, fun flex => fa136_3, ⟨by decide, ⟨rfl, rd_calen, rd_alen⟩, fa136_4, sl134, by decide, (def_skip Tryz.func144 rfl rfl rfl), nils_ok rfl, ⟨by decide, ⟨rfl, rd_cstring, rd_string⟩, fun flex => fa139_0, ⟨by decide, NumC.rd (by decide) rd_int32, ⟨rfl, rd_calen, rd_alen⟩, fa139_1, sl130, by decide, info_of sz21, fun flex => rfl, ⟨by decide, rfl, rd_tags, fa139_2, done_ok (by decide)⟩⟩⟩, ⟨by decide, rfl, rd_tags, fa136_5, done_ok (by decide)⟩⟩⟩⟩⟩⟩, ⟨by decide, rfl, rd_tags, fa127_6, done_ok (by decide)⟩⟩⟩⟩⟩⟩
theorem okW : a.ok Tryz.prog 5 true true 127 := ⟨⟨rfl, app_cstrC, app_strC⟩, fun flex => by cases flex <;> exact ⟨fa127_1, (.inl ⟨one9, rfl, fun _ _ => rfl⟩)⟩, ⟨app_i64C, fun flex => ⟨fa127_2, (.inl ⟨one2, rfl, fun _ _ => rfl⟩)⟩, ⟨app_i16C, fun flex => ⟨fa127_3, (.inl ⟨one42, rfl, fun _ _ => rfl⟩)⟩, ⟨rfl, ⟨rfl, len_compact, len_plain⟩, fa127_4, sl124, ⟨⟨rfl, app_cstrC, app_strC⟩, fun flex => by cases flex <;> exact ⟨fa132_0, (.inl ⟨one9, rfl, fun _ _ => rfl⟩)⟩, ⟨rfl, ⟨rfl, len_compact, len_plain⟩, fa132_1, sl130, app_i32C, fun flex => ⟨by cases flex <;> rfl, by cases flex <;> exact (.inl ⟨one21, rfl, fun _ _ => rfl⟩)⟩, ⟨rfl, fa132_2, tags_len, app_uvarint, tags_each, trivial⟩⟩⟩, ⟨rfl, ⟨rfl, len_compact, len_plain⟩, fa127_5, sl125, ⟨⟨rfl, app_cstrC, app_strC⟩, fun flex => by cases flex <;> exact ⟨fa136_0, (.inl ⟨one9, rfl, fun _ _ => rfl⟩)⟩, ⟨app_i64C, fun flex => ⟨fa136_1, (.inl ⟨one2, rfl, fun _ _ => rfl⟩)⟩, ⟨app_i16C, fun flex => ⟨fa136_2, (.inl ⟨one42, rfl, fun _ _ => rfl⟩)⟩, ⟨app_boolC, fun flex => ⟨fa136_3, (.inl ⟨one4, rfl, fun _ _ => rfl⟩)⟩, ⟨rfl, ⟨rfl, len_compact, len_plain⟩, fa136_4, sl134, ⟨⟨rfl, app_cstrC, app_strC⟩, fun flex => by cases flex <;> exact ⟨fa139_0, (.inl ⟨one9, rfl, fun _ _ => rfl⟩)⟩, ⟨rfl, ⟨rfl, len_compact, len_plain⟩, fa139_1, sl130, app_i32C, fun flex => ⟨by cases flex <;> rfl, by cases flex <;> exact (.inl ⟨one21, rfl, fun _ _ => rfl⟩)⟩, ⟨rfl, fa139_2, tags_len, app_uvarint, tags_each, trivial⟩⟩⟩, ⟨rfl, fa136_5, tags_len, app_uvarint, tags_each, trivial⟩⟩⟩⟩⟩⟩, ⟨rfl, fa127_6, tags_len, app_uvarint, tags_each, trivial⟩⟩⟩⟩⟩⟩
theorem msgR : MsgR Tryz.prog gn 127 63 102 42 M0 Tryz.f104.ntmps 7 7 none (some 3) r EI :=
  ⟨rd_ok, rd_completeE, und_i32, rdrT, one_i16, fa127_0, (def_skip Tryz.func102 rfl rfl rfl), fun F h => (by cases h), okR, by decide, by decide, by decide, rfl, by decide⟩
theorem msgW : MsgW Tryz.prog hn true 127 42 M1 Tryz.f69.ntmps (some 3) a := ⟨und_int, und_u32, one_i16, fa127_0, okW, rfl, by decide, by decide⟩
theorem plain_of {F : Nat} {fn : Func} (hf : Tryz.prog.funcs[F]? = some fn) (hb : fn.body.isNone = false) (hn : (fn.name == "runtime.NumGoroutine") = false) : Plain Tryz.prog F := ⟨fn, hf, hb, hn⟩
theorem agc : AgC Tryz.prog 5 22 52 68 69 1 EI none (some 3) r (MwM r (some 3)) vlM 7 :=
  mwa ▸ AgC.mk' (sl := 22) (bo := 4) msgR msgW Tryz.func104 bR codeR Tryz.results104 rfl (plain_of Tryz.func104 rfl rfl) Tryz.func68 bD codeD Tryz.results68 Tryz.ntmps68 (plain_of Tryz.func68 rfl rfl)
    Tryz.func69 bW codeW Tryz.results69 rfl (plain_of Tryz.func69 rfl rfl) Tryz.underlying22 info_u8 Tryz.underlying52 (errI_keep (L := 1 + 1) (Nat.lt_succ_self _)) (fun w h => h.2) vlM
    (fun w D b lo hi ver x bs bs0 ver0 hv hc hH => by have e : a.m ver (flexOf (some 3) ver) = MwM r (some 3) ver := congrFun mwa ver; rw [e]; exact hH)
noncomputable def bP : Code := (Tryz.f63.body).getD .skip
noncomputable def bS : Code := (Tryz.f67.body).getD .skip
noncomputable def bV : Code := (Tryz.f64.body).getD .skip
noncomputable def bX : Code := (Tryz.f28.body).getD .skip
theorem codeP : Tryz.f63.body = some (gNP 102 127 63 bP) := by kernel_rfl
theorem codeS : Tryz.f67.body = some (gSV 127 42 bS) := by kernel_rfl
theorem codeV : Tryz.f64.body = some (gK (.int .i16 0) (.int .i16 5) bV) := by kernel_rfl
theorem codeX : Tryz.f28.body = some (gMx 63 64 63 42 3 bX) := by kernel_rfl
theorem alc : Alc Tryz.prog 127 #[.int .i16 0, .string ⟨#[]⟩, .int .i64 0, .int .i16 0, .slice none 0 0, .slice none 0 0, .map none] := fun o a w h => by
  obtain ⟨d, op, t, p, af, g⟩ := o
  simp only at h
  subst h
  kernel_rfl
theorem new_calls (w : World) : Calls Tryz.prog 63 #[] w fun e w' => e = .returned (.pointer (some ⟨w.heap.size, 0, none⟩)) ∧ Only (fun _ => False) w w' ∧ Blk w' w.heap.size 7 ∧ ∀ q ∈ r.nils, w'.cell? ⟨w.heap.size, q, none⟩ = some (.slice none 0 0) :=
  (NP_calls (ks := 0 :: r.nils) Tryz.func63 bP codeP Tryz.results63 Tryz.ntmps63 alc rfl (def_skip Tryz.func102 rfl rfl rfl)).mono fun e w' h => ⟨h.1, h.2.1, h.2.2.1, fun q hq => (h.2.2.2 q (List.mem_cons_of_mem _ hq)).trans (nilsZ rfl q hq)⟩
theorem set_calls (w : World) (b : Nat) (n : Int) (hb : Blk w b 7) : Calls Tryz.prog 67 #[.pointer (some ⟨b, 0, none⟩), .int .i16 n] w fun e w' => e = .returned (.tuple #[]) ∧ Only (· = b) w w' ∧ Upd b 0 1 w w' ∧ w'.cell? ⟨b, 0, none⟩ = some (.int .i16 n) :=
  SV_calls Tryz.func67 bS codeS Tryz.results67 Tryz.ntmps67 fa127_0 hb (by decide)
theorem max_calls (w : World) : Calls Tryz.prog 28 #[] w fun e w' => e = .returned (.int .i64 5) ∧ Only (fun _ => False) w w' :=
  Mx_calls Tryz.func28 bX codeX Tryz.results28 Tryz.ntmps28 und_int Tryz.underlying42 (plain_of Tryz.func63 rfl rfl) (plain_of Tryz.func64 rfl rfl) ((new_calls w).mono fun e w' h => ⟨_, h.1, h.2.1⟩) fun v w' => K_calls Tryz.func64 bV codeV Tryz.results64 Tryz.ntmps64
noncomputable def bA : Code := (Tryz.f30.body).getD .skip
theorem codeA : Tryz.f30.body = some (gAgM 63 67 68 69 63 22 52 52 3 42 bA) := by kernel_rfl
/-- What impl.AgainAddPartitionsToTxnRequest comes to. -/
theorem again {w : World} {ver : Int} {vs : Value} {B : Nat} {bs : List UInt8} (hB : B ≤ w.heap.size) (hv : Oc w B vs bs) (hl : bs.length ≤ lim) (hI : EI w) (hr : IntKind.i16.wrap ver = ver) (hf : Fits none (some 3) ver r (MwM r (some 3)) vlM bs) :
    Calls Tryz.prog 30 #[.int .i64 ver, vs] w (AgQ 5 none (some 3) ver r (MwM r (some 3)) vlM w bs) :=
  AgM_calls agc Tryz.func30 bA codeA Tryz.results30 Tryz.ntmps30 (plain_of Tryz.func63 rfl rfl) (plain_of Tryz.func67 rfl rfl) und_int Tryz.underlying42 (by decide) (by decide) new_calls set_calls hB hv hl hI hr hf
theorem ei_up {w w' : World} (h : EI w) (O : Only (fun _ => False) w w') : EI w' := agc.keep w w' h (O.mono fun _ _ h => h.elim)
theorem full {w : World} {vs : Value} {B : Nat} {ver : Int} {bs : List UInt8} (hB : B ≤ w.heap.size) (hv : Oc w B vs bs) (hr : IntKind.i16.wrap ver = ver) (h : Full (r.m ver (flexOf (some 3) ver)).w bs) (hl : bs.length ≤ lim) (hI : EI w) : Calls Tryz.prog 30 #[.int .i64 ver, vs] w (FullP 5 bs w) :=
  have k := fullM h (by unfold lim at hl; unfold lim2; omega)
  (again hB hv hl hI hr k.1).mono fun e w' h => fullP_of (k.2 h)
theorem cut {w : World} {vs : Value} {B : Nat} {ver : Int} {q s : List UInt8} (hB : B ≤ w.heap.size) (hv : Oc w B vs q) (hr : IntKind.i16.wrap ver = ver) (h : Full (r.m ver (flexOf (some 3) ver)).w (q ++ s)) (hs : s ≠ []) (hl : q.length ≤ lim) (hI : EI w) : Calls Tryz.prog 30 #[.int .i64 ver, vs] w (CutP w) :=
  have k := cutM h hs hl
  (again hB hv hl hI hr k.1).mono fun e w' h => k.2 h
theorem any2 {ver : Int} {bs : List UInt8} (hr : IntKind.i16.wrap ver = ver) (hok : (r.m ver (flexOf (some 3) ver)).w.ok = true) (hl : bs.length ≤ 32767) :
    (∃ out, out.length ≤ bs.length ∧ Full (r.m ver (flexOf (some 3) ver)).w out ∧ ∀ {w : World} {vs : Value} {B : Nat}, B ≤ w.heap.size → Oc w B vs bs → EI w → Calls Tryz.prog 30 #[.int .i64 ver, vs] w (FullP 5 out w)) ∨
      ∀ {w : World} {vs : Value} {B : Nat}, B ≤ w.heap.size → Oc w B vs bs → EI w → Calls Tryz.prog 30 #[.int .i64 ver, vs] w (CutP w) := by
  have hf := (anyM hok hl).1
  have hll : bs.length ≤ lim := by unfold lim; omega
  rcases anyM2 hok hl with ⟨out, h1, h4, h5⟩ | h
  · exact .inl ⟨out, h1, h4, fun hB hv hI => (again hB hv hll hI hr hf).mono fun e w' h => h5 h⟩
  · exact .inr fun hB hv hI => (again hB hv hll hI hr hf).mono fun e w' hh => h hh
end Go.Proofs.YtjphodjbflgbaaaGreatDoor.Kf.MAddPartitionsToTxnRequest
