/- AssignReplicasToDirsRequest: its schema; what the thin package's functions over it come to. -/
import Derived.Test.YtffgggfendppiaaGreatDoorMsgB
import Derived.Test.YtffgggfendppiaaGreatDoorLawA
import Derived.Test.YtffgggfendppiaaGreatDoorDfA
import Derived.Handy
import Derived.Test.YtffgggfendppiaaGreatDoorTagC
import Derived.Test.YtffgggfendppiaaGreatDoorTagG
import Derived.Test.YtffgggfendppiaaGreatDoorKbT
import Derived.Test.YtffgggfendppiaaGreatDoorKbV
namespace Go.Proofs.YtffgggfendppiaaGreatDoor.Kf.MAssignReplicasToDirsRequest
set_option linter.unusedVariables false
set_option linter.unusedSimpArgs false
set_option maxRecDepth 100000
open Go Go.RowKit

def r : R := .val .all 1 1 21 (.prim .i32 116) (.val .all 2 2 2 (.prim .i64 150) (.arrS .all 3 3 147 48 [.int .u8 0, .int .u8 0, .int .u8 0, .int .u8 0, .int .u8 0, .int .u8 0, .int .u8 0, .int .u8 0, .int .u8 0, .int .u8 0, .int .u8 0, .int .u8 0, .int .u8 0, .int .u8 0, .int .u8 0, .int .u8 0, .slice none 0 0, .map none] (.two 117 118) none 153 150 153 (.val .all 0 0 142 (.uid 149 142) (.arrS .all 1 16 151 48 [.int .u8 0, .int .u8 0, .int .u8 0, .int .u8 0, .int .u8 0, .int .u8 0, .int .u8 0, .int .u8 0, .int .u8 0, .int .u8 0, .int .u8 0, .int .u8 0, .int .u8 0, .int .u8 0, .int .u8 0, .int .u8 0, .slice none 0 0, .map none] (.two 117 118) none 154 154 157 (.val .all 0 0 142 (.uid 149 142) (.arrS .all 1 16 155 16 [.int .i32 0, .map none] (.two 117 118) none 155 158 160 (.val .all 0 0 21 (.prim .i32 116) (.tags 1 1 72 132 .done)) (.tags 2 17 72 132 .done))) (.tags 2 17 72 132 .done))) (.tags 4 4 72 132 .done)))
def a : A := .val .all 1 1 21 (.one (.prim .i32) 81) (.val .all 2 2 2 (.one (.prim .i64) 106) (.arrS .all 3 3 147 48 [.int .u8 0, .int .u8 0, .int .u8 0, .int .u8 0, .int .u8 0, .int .u8 0, .int .u8 0, .int .u8 0, .int .u8 0, .int .u8 0, .int .u8 0, .int .u8 0, .int .u8 0, .int .u8 0, .int .u8 0, .int .u8 0, .slice none 0 0, .map none] none (.two false 82 83) 153 (.val .all 0 0 142 (.uid 105 142) (.arrS .all 1 16 151 48 [.int .u8 0, .int .u8 0, .int .u8 0, .int .u8 0, .int .u8 0, .int .u8 0, .int .u8 0, .int .u8 0, .int .u8 0, .int .u8 0, .int .u8 0, .int .u8 0, .int .u8 0, .int .u8 0, .int .u8 0, .int .u8 0, .slice none 0 0, .map none] none (.two false 82 83) 157 (.val .all 0 0 142 (.uid 105 142) (.arrS .all 1 16 155 16 [.int .i32 0, .map none] none (.two false 82 83) 160 (.val .all 0 0 21 (.one (.prim .i32) 81) (.tags 1 1 72 91 90 92 .done)) (.tags 2 17 72 91 90 92 .done))) (.tags 2 17 72 91 90 92 .done))) (.tags 4 4 72 91 90 92 .done)))
noncomputable def bR : Code := (Tryz.f109.body).getD .skip
noncomputable def bW : Code := (Tryz.f69.body).getD .skip
noncomputable def bD : Code := (Tryz.f68.body).getD .skip
def M0 : Nat := (if ((some 0) : Option Int).isSome then 11 else 10) + r.k
def M1 : Nat := Nat.max ((if ((some 0) : Option Int).isSome then 7 else 6) + a.k) 7
theorem mwa : (fun ver => a.m ver (flexOf (some 0) ver)) = MwM r (some 0) := by
  funext ver
  unfold MwM
  generalize flexOf (some 0) ver = flex
  cases flex <;> rfl
theorem codeR : Tryz.f109.body = some (gRead gn 149 63 107 42 M0 none (some 0) r bR) := by kernel_rfl
theorem codeW : Tryz.f69.body = some (gWrite hn 149 42 M1 (some 0) a bW) := by kernel_rfl
theorem codeD : Tryz.f68.body = some (gRF 109 63 22 4 bD) := by kernel_rfl
theorem sz21 : (Tryz.prog.info? 21).map (·.size) = some 1 := by kernel_rfl
theorem fa149_1 : FieldAt Tryz.prog 149 1 1 21 1 := fieldAt_of Tryz.underlying149 rfl rfl rfl sz21 (by decide)
theorem sz2 : (Tryz.prog.info? 2).map (·.size) = some 1 := by kernel_rfl
theorem fa149_2 : FieldAt Tryz.prog 149 2 2 2 1 := fieldAt_of Tryz.underlying149 rfl rfl rfl sz2 (by decide)
theorem sz147 : (Tryz.prog.info? 147).map (·.size) = some 1 := by kernel_rfl
theorem fa149_3 : FieldAt Tryz.prog 149 3 3 147 1 := fieldAt_of Tryz.underlying149 rfl rfl rfl sz147 (by decide)
theorem sl147 : Sl Tryz.prog 147 18 48 [.int .u8 0, .int .u8 0, .int .u8 0, .int .u8 0, .int .u8 0, .int .u8 0, .int .u8 0, .int .u8 0, .int .u8 0, .int .u8 0, .int .u8 0, .int .u8 0, .int .u8 0, .int .u8 0, .int .u8 0, .int .u8 0, .slice none 0 0, .map none] := sl_of Tryz.underlying147 (by kernel_rfl) sz147 (by decide) rfl
theorem sz142 : (Tryz.prog.info? 142).map (·.size) = some 16 := by kernel_rfl
theorem fa153_0 : FieldAt Tryz.prog 153 0 0 142 16 := fieldAt_of Tryz.underlying153 rfl rfl rfl sz142 (by decide)
theorem bx16 : BxT Tryz.prog 142 16 where
  alc := ⟨#[.int .u8 0, .int .u8 0, .int .u8 0, .int .u8 0, .int .u8 0, .int .u8 0, .int .u8 0, .int .u8 0, .int .u8 0, .int .u8 0, .int .u8 0, .int .u8 0, .int .u8 0, .int .u8 0, .int .u8 0, .int .u8 0], rfl, fun o a w h => by
    obtain ⟨d, op, t, p, af, g⟩ := o
    simp only at h
    subst h
    kernel_rfl⟩
  sz := info_of sz142
  desc := ⟨_, Tryz.underlying142, rfl⟩
theorem sz151 : (Tryz.prog.info? 151).map (·.size) = some 1 := by kernel_rfl
theorem fa153_1 : FieldAt Tryz.prog 153 1 16 151 1 := fieldAt_of Tryz.underlying153 rfl rfl rfl sz151 (by decide)
theorem sl151 : Sl Tryz.prog 151 18 48 [.int .u8 0, .int .u8 0, .int .u8 0, .int .u8 0, .int .u8 0, .int .u8 0, .int .u8 0, .int .u8 0, .int .u8 0, .int .u8 0, .int .u8 0, .int .u8 0, .int .u8 0, .int .u8 0, .int .u8 0, .int .u8 0, .slice none 0 0, .map none] := sl_of Tryz.underlying151 (by kernel_rfl) sz151 (by decide) rfl
theorem fa157_0 : FieldAt Tryz.prog 157 0 0 142 16 := fieldAt_of Tryz.underlying157 rfl rfl rfl sz142 (by decide)
theorem sz155 : (Tryz.prog.info? 155).map (·.size) = some 1 := by kernel_rfl
theorem fa157_1 : FieldAt Tryz.prog 157 1 16 155 1 := fieldAt_of Tryz.underlying157 rfl rfl rfl sz155 (by decide)
theorem sl155 : Sl Tryz.prog 155 2 16 [.int .i32 0, .map none] := sl_of Tryz.underlying155 (by kernel_rfl) sz155 (by decide) rfl
theorem fa160_0 : FieldAt Tryz.prog 160 0 0 21 1 := fieldAt_of Tryz.underlying160 rfl rfl rfl sz21 (by decide)
theorem sz72 : (Tryz.prog.info? 72).map (·.size) = some 1 := by kernel_rfl
theorem fa160_1 : FieldAt Tryz.prog 160 1 1 72 1 := fieldAt_of Tryz.underlying160 rfl rfl rfl sz72 (by decide)
theorem fa157_2 : FieldAt Tryz.prog 157 2 17 72 1 := fieldAt_of Tryz.underlying157 rfl rfl rfl sz72 (by decide)
theorem fa153_2 : FieldAt Tryz.prog 153 2 17 72 1 := fieldAt_of Tryz.underlying153 rfl rfl rfl sz72 (by decide)
theorem fa149_4 : FieldAt Tryz.prog 149 4 4 72 1 := fieldAt_of Tryz.underlying149 rfl rfl rfl sz72 (by decide)
theorem one21 : One Tryz.prog 21 := one_of Tryz.underlying21 rfl sz21
theorem one2 : One Tryz.prog 2 := one_of Tryz.underlying2 rfl sz2
theorem sz42 : (Tryz.prog.info? 42).map (·.size) = some 1 := by kernel_rfl
theorem fa149_0 : FieldAt Tryz.prog 149 0 0 42 1 := fieldAt_of Tryz.underlying149 rfl rfl rfl sz42 (by decide)
def dl_AssignReplicasToDirsRequest : List DI := [.set ⟨2, 2, 2, .int .i64 (-1)⟩]
noncomputable def bDf_AssignReplicasToDirsRequest : Code := (Tryz.f107.body).getD .skip
theorem def_AssignReplicasToDirsRequest : DefC Tryz.prog 107 5 [0, 3] :=
  def_set (T := 149) (l := dl_AssignReplicasToDirsRequest) Tryz.func107 bDf_AssignReplicasToDirsRequest (by kernel_rfl) Tryz.results107 Tryz.ntmps107 (by decide) rfl (fun x hx => by
    simp only [dl_AssignReplicasToDirsRequest, List.mem_cons, List.not_mem_nil, or_false] at hx
    subst hx; exact ⟨fa149_2, rfl, rfl, by decide, by decide⟩)
theorem okR : r.ok Tryz.prog true 149 1 5 := ⟨by decide, NumC.rd (by decide) rd_int32, fun flex => fa149_1, ⟨by decide, NumC.rd (by decide) rd_int64, fun flex => fa149_2, ⟨by decide, ⟨rfl, rd_calen, rd_alen⟩, fa149_3, sl147, by decide, (def_skip Tryz.func153 rfl rfl rfl), nils_ok rfl, ⟨by decide, ⟨rd_uuid, bx16⟩, fun flex => fa153_0, ⟨by decide, ⟨rfl, rd_calen, rd_alen⟩, fa153_1, sl151, by decide, (def_skip Tryz.func154 rfl rfl rfl), nils_ok rfl, ⟨by decide, ⟨rd_uuid, bx16⟩, fun flex => fa157_0, ⟨by decide, ⟨rfl, rd_calen, rd_alen⟩, fa157_1, sl155, by decide, (def_skip Tryz.func155 rfl rfl rfl), nils_ok rfl, ⟨by decide, NumC.rd (by decide) rd_int32, fun flex => fa160_0, ⟨by decide, rfl, rd_tags, fa160_1, done_ok (by decide)⟩⟩, ⟨by decide, rfl, rd_tags, fa157_2, done_ok (by decide)⟩⟩⟩, ⟨by decide, rfl, rd_tags, fa153_2, done_ok (by decide)⟩⟩⟩, ⟨by decide, rfl, rd_tags, fa149_4, done_ok (by decide)⟩⟩⟩⟩
theorem okW : a.ok Tryz.prog 5 true true 149 := ⟨app_i32C, fun flex => ⟨fa149_1, (.inl ⟨one21, rfl, fun _ _ => rfl⟩)⟩, ⟨app_i64C, fun flex => ⟨fa149_2, (.inl ⟨one2, rfl, fun _ _ => rfl⟩)⟩, ⟨rfl, ⟨rfl, len_compact, len_plain⟩, fa149_3, sl147, ⟨⟨app_uuidC, bx16⟩, fun flex => ⟨fa153_0, (.inr ⟨⟨⟨_, Tryz.underlying142, rfl⟩, info_of sz142⟩, fun _ => rfl⟩)⟩, ⟨rfl, ⟨rfl, len_compact, len_plain⟩, fa153_1, sl151, ⟨⟨app_uuidC, bx16⟩, fun flex => ⟨fa157_0, (.inr ⟨⟨⟨_, Tryz.underlying142, rfl⟩, info_of sz142⟩, fun _ => rfl⟩)⟩, ⟨rfl, ⟨rfl, len_compact, len_plain⟩, fa157_1, sl155, ⟨app_i32C, fun flex => ⟨fa160_0, (.inl ⟨one21, rfl, fun _ _ => rfl⟩)⟩, ⟨rfl, fa160_1, tags_len, app_uvarint, tags_each, trivial⟩⟩, ⟨rfl, fa157_2, tags_len, app_uvarint, tags_each, trivial⟩⟩⟩, ⟨rfl, fa153_2, tags_len, app_uvarint, tags_each, trivial⟩⟩⟩, ⟨rfl, fa149_4, tags_len, app_uvarint, tags_each, trivial⟩⟩⟩⟩
theorem msgR : MsgR Tryz.prog gn 149 63 107 42 M0 Tryz.f109.ntmps 5 5 none (some 0) r EI :=
  ⟨rd_ok, rd_completeE, und_i32, rdrT, one_i16, fa149_0, def_AssignReplicasToDirsRequest, fun F h => (by cases h), okR, by decide, by decide, by decide, rfl, by decide⟩
theorem msgW : MsgW Tryz.prog hn true 149 42 M1 Tryz.f69.ntmps (some 0) a := ⟨und_int, und_u32, one_i16, fa149_0, okW, rfl, by decide, by decide⟩
theorem plain_of {F : Nat} {fn : Func} (hf : Tryz.prog.funcs[F]? = some fn) (hb : fn.body.isNone = false) (hn : (fn.name == "runtime.NumGoroutine") = false) : Plain Tryz.prog F := ⟨fn, hf, hb, hn⟩
theorem agc : AgC Tryz.prog 5 22 52 68 69 1 EI none (some 0) r (MwM r (some 0)) vlM 5 :=
  mwa ▸ AgC.mk' (sl := 22) (bo := 4) msgR msgW Tryz.func109 bR codeR Tryz.results109 rfl (plain_of Tryz.func109 rfl rfl) Tryz.func68 bD codeD Tryz.results68 Tryz.ntmps68 (plain_of Tryz.func68 rfl rfl)
    Tryz.func69 bW codeW Tryz.results69 rfl (plain_of Tryz.func69 rfl rfl) Tryz.underlying22 info_u8 Tryz.underlying52 (errI_keep (L := 1 + 1) (Nat.lt_succ_self _)) (fun w h => h.2) vlM
    (fun w D b lo hi ver x bs bs0 ver0 hv hc hH => by have e : a.m ver (flexOf (some 0) ver) = MwM r (some 0) ver := congrFun mwa ver; rw [e]; exact hH)
noncomputable def bP : Code := (Tryz.f64.body).getD .skip
noncomputable def bS : Code := (Tryz.f67.body).getD .skip
noncomputable def bV : Code := (Tryz.f65.body).getD .skip
noncomputable def bX : Code := (Tryz.f28.body).getD .skip
theorem codeP : Tryz.f64.body = some (gNP 107 149 63 bP) := by kernel_rfl
theorem codeS : Tryz.f67.body = some (gSV 149 42 bS) := by kernel_rfl
theorem codeV : Tryz.f65.body = some (gK (.int .i16 0) (.int .i16 0) bV) := by kernel_rfl
theorem codeX : Tryz.f28.body = some (gMx 64 65 63 42 3 bX) := by kernel_rfl
theorem alc : Alc Tryz.prog 149 #[.int .i16 0, .int .i32 0, .int .i64 0, .slice none 0 0, .map none] := fun o a w h => by
  obtain ⟨d, op, t, p, af, g⟩ := o
  simp only at h
  subst h
  kernel_rfl
theorem new_calls (w : World) : Calls Tryz.prog 64 #[] w fun e w' => e = .returned (.pointer (some ⟨w.heap.size, 0, none⟩)) ∧ Only (fun _ => False) w w' ∧ Blk w' w.heap.size 5 ∧ ∀ q ∈ r.nils, w'.cell? ⟨w.heap.size, q.1, none⟩ = some (nilV q.2) :=
  (NP_calls (ks := 0 :: r.nils.map Prod.fst) Tryz.func64 bP codeP Tryz.results64 Tryz.ntmps64 alc rfl def_AssignReplicasToDirsRequest).mono fun e w' h => ⟨h.1, h.2.1, h.2.2.1, fun q hq => (h.2.2.2 q.1 (List.mem_cons_of_mem _ (List.mem_map_of_mem hq))).trans (nilsZ rfl q hq)⟩
theorem set_calls (w : World) (b : Nat) (n : Int) (hb : Blk w b 5) : Calls Tryz.prog 67 #[.pointer (some ⟨b, 0, none⟩), .int .i16 n] w fun e w' => e = .returned (.tuple #[]) ∧ Only (· = b) w w' ∧ Upd b 0 1 w w' ∧ w'.cell? ⟨b, 0, none⟩ = some (.int .i16 n) :=
  SV_calls Tryz.func67 bS codeS Tryz.results67 Tryz.ntmps67 fa149_0 hb (by decide)
theorem max_calls (w : World) : Calls Tryz.prog 28 #[] w fun e w' => e = .returned (.int .i64 0) ∧ Only (fun _ => False) w w' :=
  Mx_calls Tryz.func28 bX codeX Tryz.results28 Tryz.ntmps28 und_int Tryz.underlying42 (plain_of Tryz.func64 rfl rfl) (plain_of Tryz.func65 rfl rfl) ((new_calls w).mono fun e w' h => ⟨_, h.1, h.2.1⟩) fun v w' => K_calls Tryz.func65 bV codeV Tryz.results65 Tryz.ntmps65
noncomputable def bA : Code := (Tryz.f30.body).getD .skip
theorem codeA : Tryz.f30.body = some (gAgM 64 67 68 69 63 22 52 52 3 42 bA) := by kernel_rfl
/-- What impl.AgainAssignReplicasToDirsRequest comes to. -/
theorem again {w : World} {ver : Int} {vs : Value} {B : Nat} {bs : List UInt8} (hB : B ≤ w.heap.size) (hv : Oc w B vs bs) (hl : bs.length ≤ lim) (hI : EI w) (hr : IntKind.i16.wrap ver = ver) (hf : Fits none (some 0) ver r (MwM r (some 0)) vlM bs) :
    Calls Tryz.prog 30 #[.int .i64 ver, vs] w (AgQ 5 none (some 0) ver r (MwM r (some 0)) vlM w bs) :=
  AgM_calls agc Tryz.func30 bA codeA Tryz.results30 Tryz.ntmps30 (plain_of Tryz.func64 rfl rfl) (plain_of Tryz.func67 rfl rfl) und_int Tryz.underlying42 (by decide) (by decide) new_calls set_calls hB hv hl hI hr hf
theorem ei_up {w w' : World} (h : EI w) (O : Only (fun _ => False) w w') : EI w' := agc.keep w w' h (O.mono fun _ _ h => h.elim)
theorem full {w : World} {vs : Value} {B : Nat} {ver : Int} {bs : List UInt8} (hB : B ≤ w.heap.size) (hv : Oc w B vs bs) (hr : IntKind.i16.wrap ver = ver) (h : Full (r.m ver (flexOf (some 0) ver)).w bs) (hl : bs.length ≤ lim) (hI : EI w) : Calls Tryz.prog 30 #[.int .i64 ver, vs] w (FullP 5 bs w) :=
  have k := fullM h (by unfold lim at hl; unfold lim2; omega)
  (again hB hv hl hI hr k.1).mono fun e w' h => fullP_of (k.2 h)
theorem cut {w : World} {vs : Value} {B : Nat} {ver : Int} {q s : List UInt8} (hB : B ≤ w.heap.size) (hv : Oc w B vs q) (hr : IntKind.i16.wrap ver = ver) (h : Full (r.m ver (flexOf (some 0) ver)).w (q ++ s)) (hs : s ≠ []) (hl : q.length ≤ lim) (hI : EI w) : Calls Tryz.prog 30 #[.int .i64 ver, vs] w (CutP w) :=
  have k := cutM h hs hl
  (again hB hv hl hI hr k.1).mono fun e w' h => k.2 h
theorem any2 {ver : Int} {bs : List UInt8} (hr : IntKind.i16.wrap ver = ver) (hok : (r.m ver (flexOf (some 0) ver)).w.ok = true) (hl : bs.length ≤ 32767) :
    (∃ out, out.length ≤ bs.length ∧ Full (r.m ver (flexOf (some 0) ver)).w out ∧ ∀ {w : World} {vs : Value} {B : Nat}, B ≤ w.heap.size → Oc w B vs bs → EI w → Calls Tryz.prog 30 #[.int .i64 ver, vs] w (FullP 5 out w)) ∨
      ∀ {w : World} {vs : Value} {B : Nat}, B ≤ w.heap.size → Oc w B vs bs → EI w → Calls Tryz.prog 30 #[.int .i64 ver, vs] w (CutP w) := by
  have hf := (anyM hok hl).1
  have hll : bs.length ≤ lim := by unfold lim; omega
  rcases anyM2 hok hl with ⟨out, h1, h4, h5⟩ | h
  · exact .inl ⟨out, h1, h4, fun hB hv hI => (again hB hv hll hI hr hf).mono fun e w' h => h5 h⟩
  · exact .inr fun hB hv hI => (again hB hv hll hI hr hf).mono fun e w' hh => h hh
end Go.Proofs.YtffgggfendppiaaGreatDoor.Kf.MAssignReplicasToDirsRequest
