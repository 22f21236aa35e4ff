/- ConsumerGroupHeartbeatResponse: the writer's schema; what a new one comes to. -/
import Derived.Test.YtcanhgcceagplaaMsgV
import Derived.Test.YtcanhgcceagplaaLawA
import Derived.Test.YtcanhgcceagplaaDfA
import Derived.Test.YtcanhgcceagplaaNewA
import Derived.Handy
import Derived.Test.YtcanhgcceagplaaTagG
import Derived.Test.YtcanhgcceagplaaKbT
import Derived.Test.YtcanhgcceagplaaKbV
namespace Go.Proofs.Ytcanhgcceagplaa.Kf.MConsumerGroupHeartbeatResponse
set_option linter.unusedVariables false
set_option linter.unusedSimpArgs false
set_option maxRecDepth 100000
open Go Go.RowKit

def a : A := .val .all 1 1 21 (.one (.prim .i32) 44) (.val .all 2 2 51 (.one (.prim .i16) 45) (.val .all 3 3 80 (.two (.str true true) (.str false true) 46 47) (.val .all 4 4 80 (.two (.str true true) (.str false true) 46 47) (.val .all 5 5 21 (.one (.prim .i32) 44) (.val .all 6 6 21 (.one (.prim .i32) 44) (.optS .all 7 7 81 28 89 2 (.arrS .all 0 0 87 48 [.int .u8 0, .int .u8 0, .int .u8 0, .int .u8 0, .int .u8 0, .int .u8 0, .int .u8 0, .int .u8 0, .int .u8 0, .int .u8 0, .int .u8 0, .int .u8 0, .int .u8 0, .int .u8 0, .int .u8 0, .int .u8 0, .slice none 0 0, .map none] none (.two false 48 49) 95 (.val .all 0 0 92 (.uid 50 92) (.arrV .all 1 16 93 4 [.int .i32 0] none (.two false 48 49) 21 (.one (.prim .i32) 44) (.tags 2 17 75 52 51 53 .done))) (.tags 1 1 75 52 51 53 .done)) (.tags 8 8 75 52 51 53 .done)))))))
noncomputable def bW : Code := (Try.f29.body).getD .skip
def M1 : Nat := Nat.max ((if ((some 0) : Option Int).isSome then 7 else 6) + a.k) 7
theorem codeW : Try.f29.body = some (gWrite hn 83 51 M1 (some 0) a bW) := by kernel_rfl
theorem sz21 : (Try.prog.info? 21).map (·.size) = some 1 := by kernel_rfl
theorem fa83_1 : FieldAt Try.prog 83 1 1 21 1 := fieldAt_of Try.underlying83 rfl rfl rfl sz21 (by decide)
theorem one21 : One Try.prog 21 := one_of Try.underlying21 rfl sz21
theorem sz51 : (Try.prog.info? 51).map (·.size) = some 1 := by kernel_rfl
theorem fa83_2 : FieldAt Try.prog 83 2 2 51 1 := fieldAt_of Try.underlying83 rfl rfl rfl sz51 (by decide)
theorem one51 : One Try.prog 51 := one_of Try.underlying51 rfl sz51
theorem sz80 : (Try.prog.info? 80).map (·.size) = some 1 := by kernel_rfl
theorem fa83_3 : FieldAt Try.prog 83 3 3 80 1 := fieldAt_of Try.underlying83 rfl rfl rfl sz80 (by decide)
theorem one80 : One Try.prog 80 := one_of Try.underlying80 rfl sz80
theorem fa83_4 : FieldAt Try.prog 83 4 4 80 1 := fieldAt_of Try.underlying83 rfl rfl rfl sz80 (by decide)
theorem fa83_5 : FieldAt Try.prog 83 5 5 21 1 := fieldAt_of Try.underlying83 rfl rfl rfl sz21 (by decide)
theorem fa83_6 : FieldAt Try.prog 83 6 6 21 1 := fieldAt_of Try.underlying83 rfl rfl rfl sz21 (by decide)
theorem sz81 : (Try.prog.info? 81).map (·.size) = some 1 := by kernel_rfl
theorem fa83_7 : FieldAt Try.prog 83 7 7 81 1 := fieldAt_of Try.underlying83 rfl rfl rfl sz81 (by decide)
theorem one81 : One Try.prog 81 := one_of Try.underlying81 rfl sz81
theorem sz87 : (Try.prog.info? 87).map (·.size) = some 1 := by kernel_rfl
theorem fa89_0 : FieldAt Try.prog 89 0 0 87 1 := fieldAt_of Try.underlying89 rfl rfl rfl sz87 (by decide)
theorem sl87 : Sl Try.prog 87 18 48 [.int .u8 0, .int .u8 0, .int .u8 0, .int .u8 0, .int .u8 0, .int .u8 0, .int .u8 0, .int .u8 0, .int .u8 0, .int .u8 0, .int .u8 0, .int .u8 0, .int .u8 0, .int .u8 0, .int .u8 0, .int .u8 0, .slice none 0 0, .map none] := sl_of Try.underlying87 (by kernel_rfl) sz87 (by decide) rfl
theorem sz92 : (Try.prog.info? 92).map (·.size) = some 16 := by kernel_rfl
theorem fa95_0 : FieldAt Try.prog 95 0 0 92 16 := fieldAt_of Try.underlying95 rfl rfl rfl sz92 (by decide)
theorem bx16 : BxT Try.prog 92 16 where
  alc := ⟨#[.int .u8 0, .int .u8 0, .int .u8 0, .int .u8 0, .int .u8 0, .int .u8 0, .int .u8 0, .int .u8 0, .int .u8 0, .int .u8 0, .int .u8 0, .int .u8 0, .int .u8 0, .int .u8 0, .int .u8 0, .int .u8 0], rfl, fun o a w h => by
    obtain ⟨d, op, t, p, af, g⟩ := o
    simp only at h
    subst h
    kernel_rfl⟩
  sz := info_of sz92
  desc := ⟨_, Try.underlying92, rfl⟩
theorem sz93 : (Try.prog.info? 93).map (·.size) = some 1 := by kernel_rfl
theorem fa95_1 : FieldAt Try.prog 95 1 16 93 1 := fieldAt_of Try.underlying95 rfl rfl rfl sz93 (by decide)
theorem sl93 : Sl Try.prog 93 1 4 [.int .i32 0] := sl_of Try.underlying93 (by kernel_rfl) sz93 (by decide) rfl
theorem sz75 : (Try.prog.info? 75).map (·.size) = some 1 := by kernel_rfl
theorem fa95_2 : FieldAt Try.prog 95 2 17 75 1 := fieldAt_of Try.underlying95 rfl rfl rfl sz75 (by decide)
theorem fa89_1 : FieldAt Try.prog 89 1 1 75 1 := fieldAt_of Try.underlying89 rfl rfl rfl sz75 (by decide)
theorem fa83_8 : FieldAt Try.prog 83 8 8 75 1 := fieldAt_of Try.underlying83 rfl rfl rfl sz75 (by decide)
theorem fa83_0 : FieldAt Try.prog 83 0 0 51 1 := fieldAt_of Try.underlying83 rfl rfl rfl sz51 (by decide)
theorem okW : a.ok Try.prog 5 true true 83 := ⟨app_i32C, fun flex => ⟨fa83_1, (.inl ⟨one21, rfl, fun _ _ => rfl⟩)⟩, ⟨app_i16C, fun flex => ⟨fa83_2, (.inl ⟨one51, rfl, fun _ _ => rfl⟩)⟩, ⟨⟨rfl, app_cnstrC, app_nstrC⟩, fun flex => by cases flex <;> exact ⟨fa83_3, (.inl ⟨one80, rfl, fun _ _ => rfl⟩)⟩, ⟨⟨rfl, app_cnstrC, app_nstrC⟩, fun flex => by cases flex <;> exact ⟨fa83_4, (.inl ⟨one80, rfl, fun _ _ => rfl⟩)⟩, ⟨app_i32C, fun flex => ⟨fa83_5, (.inl ⟨one21, rfl, fun _ _ => rfl⟩)⟩, ⟨app_i32C, fun flex => ⟨fa83_6, (.inl ⟨one21, rfl, fun _ _ => rfl⟩)⟩, ⟨fa83_7, one81, by kernel_rfl, ⟨Try.underlying28, info_u8⟩, ⟨rfl, ⟨rfl, len_compact, len_plain⟩, fa89_0, sl87, ⟨⟨app_uuidC, bx16⟩, fun flex => ⟨fa95_0, (.inr ⟨⟨⟨_, Try.underlying92, rfl⟩, info_of sz92⟩, fun _ => rfl⟩)⟩, ⟨rfl, ⟨rfl, len_compact, len_plain⟩, fa95_1, sl93, app_i32C, fun flex => ⟨by cases flex <;> rfl, by cases flex <;> exact (.inl ⟨one21, rfl, fun _ _ => rfl⟩)⟩, ⟨rfl, fa95_2, tags_len, app_uvarint, tags_each, trivial⟩⟩⟩, ⟨rfl, fa89_1, tags_len, app_uvarint, tags_each, trivial⟩⟩, ⟨rfl, fa83_8, tags_len, app_uvarint, tags_each, trivial⟩⟩⟩⟩⟩⟩⟩⟩
theorem msgW : MsgW Try.prog hn true 83 51 M1 Try.f29.ntmps (some 0) a := ⟨und_int, und_u32, one_i16, fa83_0, okW, rfl, by decide, by decide⟩
theorem plain_of {F : Nat} {fn : Func} (hf : Try.prog.funcs[F]? = some fn) (hb : fn.body.isNone = false) (hn : (fn.name == "runtime.NumGoroutine") = false) : Plain Try.prog F := ⟨fn, hf, hb, hn⟩
noncomputable def bP : Code := (Try.f25.body).getD .skip
noncomputable def bS : Code := (Try.f28.body).getD .skip
noncomputable def bV : Code := (Try.f26.body).getD .skip
noncomputable def bX : Code := (Try.f6.body).getD .skip
noncomputable def bN : Code := (Try.f9.body).getD .skip
theorem codeP : Try.f25.body = some (gNP 42 83 52 bP) := by kernel_rfl
theorem codeS : Try.f28.body = some (gSV 83 51 bS) := by kernel_rfl
theorem codeV : Try.f26.body = some (gK (.int .i16 0) (.int .i16 1) bV) := by kernel_rfl
theorem codeX : Try.f6.body = some (gMx 25 26 52 51 3 bX) := by kernel_rfl
theorem codeN : Try.f9.body = some (gNewM 25 28 29 52 28 3 51 bN) := by kernel_rfl
theorem alc : Alc Try.prog 83 #[.int .i16 0, .int .i32 0, .int .i16 0, .pointer none, .pointer none, .int .i32 0, .int .i32 0, .pointer none, .map none] := fun o a w h => by
  obtain ⟨d, op, t, p, af, g⟩ := o
  simp only at h
  subst h
  kernel_rfl
theorem defv : DefV Try.prog 42 83 #[.int .i16 0, .int .i32 0, .int .i16 0, .pointer none, .pointer none, .int .i32 0, .int .i32 0, .pointer none, .map none] #[.int .i16 0, .int .i32 0, .int .i16 0, .pointer none, .pointer none, .int .i32 0, .int .i32 0, .pointer none, .map none] := ⟨plain_of Try.func42 rfl rfl, fun w b hb => by
  go_enter Try.func42, Try.ntmps42
  go_wp2
  exact bodyPost_end (results_none rfl _ _ _) rfl ⟨_, rfl, Only.refl _ _, hb⟩⟩
theorem new_calls (w : World) : Calls Try.prog 25 #[] w (NewVP #[.int .i16 0, .int .i32 0, .int .i16 0, .pointer none, .pointer none, .int .i32 0, .int .i32 0, .pointer none, .map none] 83 w) :=
  NPV_calls Try.func25 bP codeP Try.results25 Try.ntmps25 alc defv
theorem set_calls (w : World) (b : Nat) (n : Int) (hb : Blk w b 9) : Calls Try.prog 28 #[.pointer (some ⟨b, 0, none⟩), .int .i16 n] w fun e w' => e = .returned (.tuple #[]) ∧ Only (· = b) w w' ∧ Upd b 0 1 w w' ∧ w'.cell? ⟨b, 0, none⟩ = some (.int .i16 n) :=
  SV_calls Try.func28 bS codeS Try.results28 Try.ntmps28 fa83_0 hb (by decide)
theorem max_calls (w : World) : Calls Try.prog 6 #[] w fun e w' => e = .returned (.int .i64 1) ∧ Only (fun _ => False) w w' :=
  Mx_calls Try.func6 bX codeX Try.results6 Try.ntmps6 und_int Try.underlying51 (plain_of Try.func25 rfl rfl) (plain_of Try.func26 rfl rfl) ((new_calls w).mono fun e w' h => ⟨_, h.1, h.2.1⟩) fun v w' => K_calls Try.func26 bV codeV Try.results26 Try.ntmps26
def zs (ver : Int) : List Value := .int .i16 ver :: (#[.int .i16 0, .int .i32 0, .int .i16 0, .pointer none, .pointer none, .int .i32 0, .int .i32 0, .pointer none, .map none] : Array Value).toList.tail
theorem new_msg {w : World} {ver : Int} {x : Val} (hr : IntKind.i16.wrap ver = ver) (hx : a.x0 ver (flexOf (some 0) ver) (zs ver) = some x) (hw : wf (a.m ver (flexOf (some 0) ver)).w x) (hl : (enc (a.m ver (flexOf (some 0) ver)).w x).length + 16 ≤ lim2) :
    Calls Try.prog 9 #[.int .i64 ver] w (SpP 5 w (enc (a.m ver (flexOf (some 0) ver)).w x)) :=
  NewM_calls Try.func9 bN codeN Try.results9 Try.ntmps9 (plain_of Try.func25 rfl rfl) (plain_of Try.func28 rfl rfl) (plain_of Try.func29 rfl rfl) und_int Try.underlying51 rfl (by decide) new_calls set_calls
    (fun w D b lo hi ver x hv hH hw hl hb hh hlo hD => appendTo_calls msgW Try.func29 bW codeW Try.results29 rfl hv hH hw hl hb hh (fun h => by cases h) hD) hr hx hw hl
end Go.Proofs.Ytcanhgcceagplaa.Kf.MConsumerGroupHeartbeatResponse
