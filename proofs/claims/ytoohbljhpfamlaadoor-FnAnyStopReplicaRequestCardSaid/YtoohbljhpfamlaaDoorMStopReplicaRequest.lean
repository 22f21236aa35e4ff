/- StopReplicaRequest: its schema; what the thin package's functions over it come to. -/
import Derived.Test.YtoohbljhpfamlaaDoorMsgB
import Derived.Test.YtoohbljhpfamlaaDoorLawA
import Derived.Test.YtoohbljhpfamlaaDoorDfA
import Derived.Handy
import Derived.Test.YtoohbljhpfamlaaDoorTagC
import Derived.Test.YtoohbljhpfamlaaDoorTagG
import Derived.Test.YtoohbljhpfamlaaDoorKbT
namespace Go.Proofs.YtoohbljhpfamlaaDoor.Kf.MStopReplicaRequest
set_option linter.unusedVariables false
set_option linter.unusedSimpArgs false
set_option maxRecDepth 100000
open Go Go.RowKit

def r : R := .val .all 1 1 21 (.prim .i32 102) (.val .all 2 2 21 (.prim .i32 102) (.val (.ge 4) 3 3 4 (.prim .bool 132) (.val (.ge 1) 4 4 2 (.prim .i64 128) (.val (.rng 0 2) 5 5 4 (.prim .bool 132) (.arrS .all 6 6 124 80 [.string ⟨#[]⟩, .int .i32 0, .slice none 0 0, .slice none 0 0, .map none] (.two 103 104) none 137 127 130 (.val .all 0 0 9 (.str2 false 108 109 110 111) (.val (.rng 0 0) 1 1 21 (.prim .i32 102) (.arrV (.rng 1 2) 2 2 110 4 [.int .i32 0] (.two 103 104) none 21 (.prim .i32 102) (.arrS (.ge 3) 3 3 128 24 [.int .i32 0, .int .i32 0, .bool false, .map none] (.two 103 104) none 138 131 133 (.val .all 0 0 21 (.prim .i32 102) (.val .all 1 1 21 (.prim .i32 102) (.val .all 2 2 4 (.prim .bool 132) (.tags 3 3 55 113 .done)))) (.tags 4 4 55 113 .done))))) (.tags 7 7 55 113 .done))))))
def a : A := .val .all 1 1 21 (.one (.prim .i32) 71) (.val .all 2 2 21 (.one (.prim .i32) 71) (.val (.ge 4) 3 3 4 (.one (.prim .bool) 92) (.val (.ge 1) 4 4 2 (.one (.prim .i64) 87) (.val (.rng 0 2) 5 5 4 (.one (.prim .bool) 92) (.arrS .all 6 6 124 80 [.string ⟨#[]⟩, .int .i32 0, .slice none 0 0, .slice none 0 0, .map none] none (.two false 72 73) 130 (.val .all 0 0 9 (.two (.str true false) (.str false false) 74 75) (.val (.rng 0 0) 1 1 21 (.one (.prim .i32) 71) (.arrV (.rng 1 2) 2 2 110 4 [.int .i32 0] none (.two false 72 73) 21 (.one (.prim .i32) 71) (.arrS (.ge 3) 3 3 128 24 [.int .i32 0, .int .i32 0, .bool false, .map none] none (.two false 72 73) 133 (.val .all 0 0 21 (.one (.prim .i32) 71) (.val .all 1 1 21 (.one (.prim .i32) 71) (.val .all 2 2 4 (.one (.prim .bool) 92) (.tags 3 3 55 77 76 78 .done)))) (.tags 4 4 55 77 76 78 .done))))) (.tags 7 7 55 77 76 78 .done))))))
noncomputable def bR : Code := (Tryd.f97.body).getD .skip
noncomputable def bW : Code := (Tryd.f63.body).getD .skip
noncomputable def bD : Code := (Tryd.f62.body).getD .skip
def M0 : Nat := (if ((some 2) : Option Int).isSome then 11 else 10) + r.k
def M1 : Nat := Nat.max ((if ((some 2) : Option Int).isSome then 7 else 6) + a.k) 7
theorem mwa : (fun ver => a.m ver (flexOf (some 2) ver)) = MwM r (some 2) := by
  funext ver
  unfold MwM
  generalize flexOf (some 2) ver = flex
  cases flex <;> rfl
theorem codeR : Tryd.f97.body = some (gRead gn 126 48 96 29 M0 none (some 2) r bR) := by kernel_rfl
theorem codeW : Tryd.f63.body = some (gWrite hn 126 29 M1 (some 2) a bW) := by kernel_rfl
theorem codeD : Tryd.f62.body = some (gRF 97 48 22 4 bD) := by kernel_rfl
theorem sz21 : (Tryd.prog.info? 21).map (·.size) = some 1 := by kernel_rfl
theorem fa126_1 : FieldAt Tryd.prog 126 1 1 21 1 := fieldAt_of Tryd.underlying126 rfl rfl rfl sz21 (by decide)
theorem fa126_2 : FieldAt Tryd.prog 126 2 2 21 1 := fieldAt_of Tryd.underlying126 rfl rfl rfl sz21 (by decide)
theorem sz4 : (Tryd.prog.info? 4).map (·.size) = some 1 := by kernel_rfl
theorem fa126_3 : FieldAt Tryd.prog 126 3 3 4 1 := fieldAt_of Tryd.underlying126 rfl rfl rfl sz4 (by decide)
theorem sz2 : (Tryd.prog.info? 2).map (·.size) = some 1 := by kernel_rfl
theorem fa126_4 : FieldAt Tryd.prog 126 4 4 2 1 := fieldAt_of Tryd.underlying126 rfl rfl rfl sz2 (by decide)
theorem fa126_5 : FieldAt Tryd.prog 126 5 5 4 1 := fieldAt_of Tryd.underlying126 rfl rfl rfl sz4 (by decide)
theorem sz124 : (Tryd.prog.info? 124).map (·.size) = some 1 := by kernel_rfl
theorem fa126_6 : FieldAt Tryd.prog 126 6 6 124 1 := fieldAt_of Tryd.underlying126 rfl rfl rfl sz124 (by decide)
theorem sl124 : Sl Tryd.prog 124 5 80 [.string ⟨#[]⟩, .int .i32 0, .slice none 0 0, .slice none 0 0, .map none] := sl_of Tryd.underlying124 (by kernel_rfl) sz124 (by decide) rfl
theorem sz9 : (Tryd.prog.info? 9).map (·.size) = some 1 := by kernel_rfl
theorem fa130_0 : FieldAt Tryd.prog 130 0 0 9 1 := fieldAt_of Tryd.underlying130 rfl rfl rfl sz9 (by decide)
theorem fa130_1 : FieldAt Tryd.prog 130 1 1 21 1 := fieldAt_of Tryd.underlying130 rfl rfl rfl sz21 (by decide)
theorem sz110 : (Tryd.prog.info? 110).map (·.size) = some 1 := by kernel_rfl
theorem fa130_2 : FieldAt Tryd.prog 130 2 2 110 1 := fieldAt_of Tryd.underlying130 rfl rfl rfl sz110 (by decide)
theorem sl110 : Sl Tryd.prog 110 1 4 [.int .i32 0] := sl_of Tryd.underlying110 (by kernel_rfl) sz110 (by decide) rfl
theorem sz128 : (Tryd.prog.info? 128).map (·.size) = some 1 := by kernel_rfl
theorem fa130_3 : FieldAt Tryd.prog 130 3 3 128 1 := fieldAt_of Tryd.underlying130 rfl rfl rfl sz128 (by decide)
theorem sl128 : Sl Tryd.prog 128 4 24 [.int .i32 0, .int .i32 0, .bool false, .map none] := sl_of Tryd.underlying128 (by kernel_rfl) sz128 (by decide) rfl
theorem fa133_0 : FieldAt Tryd.prog 133 0 0 21 1 := fieldAt_of Tryd.underlying133 rfl rfl rfl sz21 (by decide)
theorem fa133_1 : FieldAt Tryd.prog 133 1 1 21 1 := fieldAt_of Tryd.underlying133 rfl rfl rfl sz21 (by decide)
theorem fa133_2 : FieldAt Tryd.prog 133 2 2 4 1 := fieldAt_of Tryd.underlying133 rfl rfl rfl sz4 (by decide)
theorem sz55 : (Tryd.prog.info? 55).map (·.size) = some 1 := by kernel_rfl
theorem fa133_3 : FieldAt Tryd.prog 133 3 3 55 1 := fieldAt_of Tryd.underlying133 rfl rfl rfl sz55 (by decide)
def dl_StopReplicaRequestTopicPartitionState : List DS := [⟨1, 1, 21, .int .i32 (-1)⟩]
noncomputable def bDf_StopReplicaRequestTopicPartitionState : Code := (Tryd.f138.body).getD .skip
theorem def_StopReplicaRequestTopicPartitionState : DefC Tryd.prog 138 4 [] :=
  def_set (T := 133) (l := dl_StopReplicaRequestTopicPartitionState) Tryd.func138 bDf_StopReplicaRequestTopicPartitionState (by kernel_rfl) Tryd.results138 Tryd.ntmps138 (by decide) rfl (fun x hx => by
    simp only [dl_StopReplicaRequestTopicPartitionState, List.mem_cons, List.not_mem_nil, or_false] at hx
    subst hx; exact ⟨fa133_1, rfl, rfl, by decide, by decide⟩)
theorem fa130_4 : FieldAt Tryd.prog 130 4 4 55 1 := fieldAt_of Tryd.underlying130 rfl rfl rfl sz55 (by decide)
theorem fa126_7 : FieldAt Tryd.prog 126 7 7 55 1 := fieldAt_of Tryd.underlying126 rfl rfl rfl sz55 (by decide)
theorem one21 : One Tryd.prog 21 := one_of Tryd.underlying21 rfl sz21
theorem one4 : One Tryd.prog 4 := one_of Tryd.underlying4 rfl sz4
theorem one2 : One Tryd.prog 2 := one_of Tryd.underlying2 rfl sz2
theorem one9 : One Tryd.prog 9 := one_of Tryd.underlying9 rfl sz9
theorem sz29 : (Tryd.prog.info? 29).map (·.size) = some 1 := by kernel_rfl
theorem fa126_0 : FieldAt Tryd.prog 126 0 0 29 1 := fieldAt_of Tryd.underlying126 rfl rfl rfl sz29 (by decide)
def dl_StopReplicaRequest : List DS := [⟨4, 4, 2, .int .i64 (-1)⟩]
noncomputable def bDf_StopReplicaRequest : Code := (Tryd.f96.body).getD .skip
theorem def_StopReplicaRequest : DefC Tryd.prog 96 8 [0, 6] :=
  def_set (T := 126) (l := dl_StopReplicaRequest) Tryd.func96 bDf_StopReplicaRequest (by kernel_rfl) Tryd.results96 Tryd.ntmps96 (by decide) rfl (fun x hx => by
    simp only [dl_StopReplicaRequest, List.mem_cons, List.not_mem_nil, or_false] at hx
    subst hx; exact ⟨fa126_4, rfl, rfl, by decide, by decide⟩)
theorem okR : r.ok Tryd.prog true 126 1 8 := ⟨by decide, NumC.rd (by decide) rd_int32, fun flex => fa126_1, ⟨by decide, NumC.rd (by decide) rd_int32, fun flex => fa126_2, ⟨by decide, NumC.rd (by decide) rd_bool, fun flex => fa126_3, ⟨by decide, NumC.rd (by decide) rd_int64, fun flex => fa126_4, ⟨by decide, NumC.rd (by decide) rd_bool, fun flex => fa126_5, ⟨by decide, ⟨rfl, rd_calen, rd_alen⟩, fa126_6, sl124, by decide, (def_skip Tryd.func137 rfl rfl rfl), nils_ok rfl, ⟨by decide, ⟨rfl, rd_cstring, rd_string⟩, fun flex => fa130_0, ⟨by decide, NumC.rd (by decide) rd_int32, fun flex => fa130_1, ⟨by decide, NumC.rd (by decide) rd_int32, ⟨rfl, rd_calen, rd_alen⟩, fa130_2, sl110, by decide, info_of sz21, fun flex => rfl, ⟨by decide, ⟨rfl, rd_calen, rd_alen⟩, fa130_3, sl128, by decide, def_StopReplicaRequestTopicPartitionState, nils_ok rfl, ⟨by decide, NumC.rd (by decide) rd_int32, fun flex => fa133_0, ⟨by decide, NumC.rd (by decide) rd_int32, fun flex => fa133_1, ⟨by decide, NumC.rd (by decide) rd_bool, fun flex => fa133_2, ⟨by decide, rfl, rd_tags, fa133_3, done_ok (by decide)⟩⟩⟩⟩, ⟨by decide, rfl, rd_tags, fa130_4, done_ok (by decide)⟩⟩⟩⟩⟩, ⟨by decide, rfl, rd_tags, fa126_7, done_ok (by decide)⟩⟩⟩⟩⟩⟩⟩
theorem okW : a.ok Tryd.prog 5 true true 126 := ⟨app_i32C, fun flex => ⟨fa126_1, (.inl ⟨one21, rfl, fun _ _ => rfl⟩)⟩, ⟨app_i32C, fun flex => ⟨fa126_2, (.inl ⟨one21, rfl, fun _ _ => rfl⟩)⟩, ⟨app_boolC, fun flex => ⟨fa126_3, (.inl ⟨one4, rfl, fun _ _ => rfl⟩)⟩, ⟨app_i64C, fun flex => ⟨fa126_4, (.inl ⟨one2, rfl, fun _ _ => rfl⟩)⟩, ⟨app_boolC, fun flex => ⟨fa126_5, (.inl ⟨one4, rfl, fun _ _ => rfl⟩)⟩, ⟨rfl, ⟨rfl, len_compact, len_plain⟩, fa126_6, sl124, ⟨⟨rfl, app_cstrC, app_strC⟩, fun flex => by cases flex <;> exact ⟨fa130_0, (.inl ⟨one9, rfl, fun _ _ => rfl⟩)⟩, ⟨app_i32C, fun flex => ⟨fa130_1, (.inl ⟨one21, rfl, fun _ _ => rfl⟩)⟩, ⟨rfl, ⟨rfl, len_compact, len_plain⟩, fa130_2, sl110, app_i32C, fun flex => ⟨by cases flex <;> rfl, by cases flex <;> exact (.inl ⟨one21, rfl, fun _ _ => rfl⟩)⟩, ⟨rfl, ⟨rfl, len_compact, len_plain⟩, fa130_3, sl128, ⟨app_i32C, fun flex => ⟨fa133_0, (.inl ⟨one21, rfl, fun _ _ => rfl⟩)⟩, ⟨app_i32C, fun flex => ⟨fa133_1, (.inl ⟨one21, rfl, fun _ _ => rfl⟩)⟩, ⟨app_boolC, fun flex => ⟨fa133_2, (.inl ⟨one4, rfl, fun _ _ => rfl⟩)⟩, ⟨rfl, fa133_3, tags_len, app_uvarint, tags_each, trivial⟩⟩⟩⟩, ⟨rfl, fa130_4, tags_len, app_uvarint, tags_each, trivial⟩⟩⟩⟩⟩, ⟨rfl, fa126_7, tags_len, app_uvarint, tags_each, trivial⟩⟩⟩⟩⟩⟩⟩
theorem msgR : MsgR Tryd.prog gn 126 48 96 29 M0 Tryd.f97.ntmps 8 8 none (some 2) r EI :=
  ⟨rd_ok, rd_completeE, und_i32, rdrT, one_i16, fa126_0, def_StopReplicaRequest, fun F h => (by cases h), okR, by decide, by decide, by decide, rfl, by decide⟩
theorem msgW : MsgW Tryd.prog hn true 126 29 M1 Tryd.f63.ntmps (some 2) a := ⟨und_int, und_u32, one_i16, fa126_0, okW, rfl, by decide, by decide⟩
theorem plain_of {F : Nat} {fn : Func} (hf : Tryd.prog.funcs[F]? = some fn) (hb : fn.body.isNone = false) (hn : (fn.name == "runtime.NumGoroutine") = false) : Plain Tryd.prog F := ⟨fn, hf, hb, hn⟩
theorem agc : AgC Tryd.prog 5 22 35 62 63 1 EI none (some 2) r (MwM r (some 2)) vlM 8 :=
  mwa ▸ AgC.mk' (sl := 22) (bo := 4) msgR msgW Tryd.func97 bR codeR Tryd.results97 rfl (plain_of Tryd.func97 rfl rfl) Tryd.func62 bD codeD Tryd.results62 Tryd.ntmps62 (plain_of Tryd.func62 rfl rfl)
    Tryd.func63 bW codeW Tryd.results63 rfl (plain_of Tryd.func63 rfl rfl) Tryd.underlying22 info_u8 Tryd.underlying35 (errI_keep (L := 1 + 1) (Nat.lt_succ_self _)) (fun w h => h.2) vlM
    (fun w D b lo hi ver x bs bs0 ver0 hv hc hH => by have e : a.m ver (flexOf (some 2) ver) = MwM r (some 2) ver := congrFun mwa ver; rw [e]; exact hH)
noncomputable def bP : Code := (Tryd.f59.body).getD .skip
noncomputable def bS : Code := (Tryd.f61.body).getD .skip
noncomputable def bV : Code := (Tryd.f60.body).getD .skip
noncomputable def bX : Code := (Tryd.f25.body).getD .skip
theorem codeP : Tryd.f59.body = some (gNP 96 126 48 bP) := by kernel_rfl
theorem codeS : Tryd.f61.body = some (gSV 126 29 bS) := by kernel_rfl
theorem codeV : Tryd.f60.body = some (gK (.int .i16 0) (.int .i16 4) bV) := by kernel_rfl
theorem codeX : Tryd.f25.body = some (gMx 59 60 48 29 3 bX) := by kernel_rfl
theorem alc : Alc Tryd.prog 126 #[.int .i16 0, .int .i32 0, .int .i32 0, .bool false, .int .i64 0, .bool false, .slice none 0 0, .map none] := fun o a w h => by
  obtain ⟨d, op, t, p, af, g⟩ := o
  simp only at h
  subst h
  kernel_rfl
theorem new_calls (w : World) : Calls Tryd.prog 59 #[] w fun e w' => e = .returned (.pointer (some ⟨w.heap.size, 0, none⟩)) ∧ Only (fun _ => False) w w' ∧ Blk w' w.heap.size 8 ∧ ∀ q ∈ r.nils, w'.cell? ⟨w.heap.size, q, none⟩ = some (.slice none 0 0) :=
  (NP_calls (ks := 0 :: r.nils) Tryd.func59 bP codeP Tryd.results59 Tryd.ntmps59 alc rfl def_StopReplicaRequest).mono fun e w' h => ⟨h.1, h.2.1, h.2.2.1, fun q hq => (h.2.2.2 q (List.mem_cons_of_mem _ hq)).trans (nilsZ rfl q hq)⟩
theorem set_calls (w : World) (b : Nat) (n : Int) (hb : Blk w b 8) : Calls Tryd.prog 61 #[.pointer (some ⟨b, 0, none⟩), .int .i16 n] w fun e w' => e = .returned (.tuple #[]) ∧ Only (· = b) w w' ∧ Upd b 0 1 w w' ∧ w'.cell? ⟨b, 0, none⟩ = some (.int .i16 n) :=
  SV_calls Tryd.func61 bS codeS Tryd.results61 Tryd.ntmps61 fa126_0 hb (by decide)
theorem max_calls (w : World) : Calls Tryd.prog 25 #[] w fun e w' => e = .returned (.int .i64 4) ∧ Only (fun _ => False) w w' :=
  Mx_calls Tryd.func25 bX codeX Tryd.results25 Tryd.ntmps25 und_int Tryd.underlying29 (plain_of Tryd.func59 rfl rfl) (plain_of Tryd.func60 rfl rfl) ((new_calls w).mono fun e w' h => ⟨_, h.1, h.2.1⟩) fun v w' => K_calls Tryd.func60 bV codeV Tryd.results60 Tryd.ntmps60
noncomputable def bA : Code := (Tryd.f26.body).getD .skip
theorem codeA : Tryd.f26.body = some (gAgM 59 61 62 63 48 22 35 35 3 29 bA) := by kernel_rfl
/-- What impl.AgainStopReplicaRequest comes to. -/
theorem again {w : World} {ver : Int} {vs : Value} {B : Nat} {bs : List UInt8} (hB : B ≤ w.heap.size) (hv : Oc w B vs bs) (hl : bs.length ≤ lim) (hI : EI w) (hr : IntKind.i16.wrap ver = ver) (hf : Fits none (some 2) ver r (MwM r (some 2)) vlM bs) :
    Calls Tryd.prog 26 #[.int .i64 ver, vs] w (AgQ 5 none (some 2) ver r (MwM r (some 2)) vlM w bs) :=
  AgM_calls agc Tryd.func26 bA codeA Tryd.results26 Tryd.ntmps26 (plain_of Tryd.func59 rfl rfl) (plain_of Tryd.func61 rfl rfl) und_int Tryd.underlying29 (by decide) (by decide) new_calls set_calls hB hv hl hI hr hf
theorem ei_up {w w' : World} (h : EI w) (O : Only (fun _ => False) w w') : EI w' := agc.keep w w' h (O.mono fun _ _ h => h.elim)
theorem full {w : World} {vs : Value} {B : Nat} {ver : Int} {bs : List UInt8} (hB : B ≤ w.heap.size) (hv : Oc w B vs bs) (hr : IntKind.i16.wrap ver = ver) (h : Full (r.m ver (flexOf (some 2) ver)).w bs) (hl : bs.length ≤ lim) (hI : EI w) : Calls Tryd.prog 26 #[.int .i64 ver, vs] w (FullP 5 bs w) :=
  have k := fullM h (by unfold lim at hl; unfold lim2; omega)
  (again hB hv hl hI hr k.1).mono fun e w' h => fullP_of (k.2 h)
theorem cut {w : World} {vs : Value} {B : Nat} {ver : Int} {q s : List UInt8} (hB : B ≤ w.heap.size) (hv : Oc w B vs q) (hr : IntKind.i16.wrap ver = ver) (h : Full (r.m ver (flexOf (some 2) ver)).w (q ++ s)) (hs : s ≠ []) (hl : q.length ≤ lim) (hI : EI w) : Calls Tryd.prog 26 #[.int .i64 ver, vs] w (CutP w) :=
  have k := cutM h hs hl
  (again hB hv hl hI hr k.1).mono fun e w' h => k.2 h
theorem any2 {ver : Int} {bs : List UInt8} (hr : IntKind.i16.wrap ver = ver) (hok : (r.m ver (flexOf (some 2) ver)).w.ok = true) (hl : bs.length ≤ 32767) :
    (∃ out, out.length ≤ bs.length ∧ Full (r.m ver (flexOf (some 2) ver)).w out ∧ ∀ {w : World} {vs : Value} {B : Nat}, B ≤ w.heap.size → Oc w B vs bs → EI w → Calls Tryd.prog 26 #[.int .i64 ver, vs] w (FullP 5 out w)) ∨
      ∀ {w : World} {vs : Value} {B : Nat}, B ≤ w.heap.size → Oc w B vs bs → EI w → Calls Tryd.prog 26 #[.int .i64 ver, vs] w (CutP w) := by
  have hf := (anyM hok hl).1
  have hll : bs.length ≤ lim := by unfold lim; omega
  rcases anyM2 hok hl with ⟨out, h1, h4, h5⟩ | h
  · exact .inl ⟨out, h1, h4, fun hB hv hI => (again hB hv hll hI hr hf).mono fun e w' h => h5 h⟩
  · exact .inr fun hB hv hI => (again hB hv hll hI hr hf).mono fun e w' hh => h hh
end Go.Proofs.YtoohbljhpfamlaaDoor.Kf.MStopReplicaRequest
