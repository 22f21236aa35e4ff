/- DescribeACLsResponse: the writer's schema; what a new one comes to. -/
import Derived.Test.YtffgggfendppiaaMsgV
import Derived.Test.YtffgggfendppiaaLawA
import Derived.Test.YtffgggfendppiaaDfA
import Derived.Test.YtffgggfendppiaaNewA
import Derived.Handy
import Derived.Test.YtffgggfendppiaaTagG
import Derived.Test.YtffgggfendppiaaKbT
namespace Go.Proofs.Ytffgggfendppiaa.Kf.MDescribeACLsResponse
set_option linter.unusedVariables false
set_option linter.unusedSimpArgs false
set_option maxRecDepth 100000
open Go Go.RowKit

def a : A := .val .all 1 1 21 (.one (.prim .i32) 37) (.val .all 2 2 38 (.one (.prim .i16) 38) (.val .all 3 3 52 (.two (.str true true) (.str false true) 39 40) (.arrS .all 4 4 53 64 [.int .i8 0, .string ⟨#[]⟩, .int .i8 0, .slice none 0 0, .map none] none (.two false 41 42) 69 (.val .all 0 0 65 (.en (.prim .i8) 43 64) (.val .all 1 1 9 (.two (.str true false) (.str false false) 44 45) (.val (.ge 1) 2 2 66 (.en (.prim .i8) 43 64) (.arrS .all 3 3 67 48 [.string ⟨#[]⟩, .string ⟨#[]⟩, .int .i8 0, .int .i8 0, .map none] none (.two false 41 42) 76 (.val .all 0 0 9 (.two (.str true false) (.str false false) 44 45) (.val .all 1 1 9 (.two (.str true false) (.str false false) 44 45) (.val .all 2 2 73 (.en (.prim .i8) 43 64) (.val .all 3 3 74 (.en (.prim .i8) 43 64) (.tags 4 4 56 47 46 48 .done))))) (.tags 4 4 56 47 46 48 .done))))) (.tags 5 5 56 47 46 48 .done))))
noncomputable def bW : Code := (Try.f23.body).getD .skip
def M1 : Nat := Nat.max ((if ((some 2) : Option Int).isSome then 7 else 6) + a.k) 7
theorem codeW : Try.f23.body = some (gWrite hn 58 38 M1 (some 2) a bW) := by kernel_rfl
theorem sz21 : (Try.prog.info? 21).map (·.size) = some 1 := by kernel_rfl
theorem fa58_1 : FieldAt Try.prog 58 1 1 21 1 := fieldAt_of Try.underlying58 rfl rfl rfl sz21 (by decide)
theorem one21 : One Try.prog 21 := one_of Try.underlying21 rfl sz21
theorem sz38 : (Try.prog.info? 38).map (·.size) = some 1 := by kernel_rfl
theorem fa58_2 : FieldAt Try.prog 58 2 2 38 1 := fieldAt_of Try.underlying58 rfl rfl rfl sz38 (by decide)
theorem one38 : One Try.prog 38 := one_of Try.underlying38 rfl sz38
theorem sz52 : (Try.prog.info? 52).map (·.size) = some 1 := by kernel_rfl
theorem fa58_3 : FieldAt Try.prog 58 3 3 52 1 := fieldAt_of Try.underlying58 rfl rfl rfl sz52 (by decide)
theorem one52 : One Try.prog 52 := one_of Try.underlying52 rfl sz52
theorem sz53 : (Try.prog.info? 53).map (·.size) = some 1 := by kernel_rfl
theorem fa58_4 : FieldAt Try.prog 58 4 4 53 1 := fieldAt_of Try.underlying58 rfl rfl rfl sz53 (by decide)
theorem sl53 : Sl Try.prog 53 5 64 [.int .i8 0, .string ⟨#[]⟩, .int .i8 0, .slice none 0 0, .map none] := sl_of Try.underlying53 (by kernel_rfl) sz53 (by decide) rfl
theorem sz65 : (Try.prog.info? 65).map (·.size) = some 1 := by kernel_rfl
theorem fa69_0 : FieldAt Try.prog 69 0 0 65 1 := fieldAt_of Try.underlying69 rfl rfl rfl sz65 (by decide)
theorem one65 : One Try.prog 65 := one_of Try.underlying65 rfl sz65
theorem sz9 : (Try.prog.info? 9).map (·.size) = some 1 := by kernel_rfl
theorem fa69_1 : FieldAt Try.prog 69 1 1 9 1 := fieldAt_of Try.underlying69 rfl rfl rfl sz9 (by decide)
theorem one9 : One Try.prog 9 := one_of Try.underlying9 rfl sz9
theorem sz66 : (Try.prog.info? 66).map (·.size) = some 1 := by kernel_rfl
theorem fa69_2 : FieldAt Try.prog 69 2 2 66 1 := fieldAt_of Try.underlying69 rfl rfl rfl sz66 (by decide)
theorem one66 : One Try.prog 66 := one_of Try.underlying66 rfl sz66
theorem sz67 : (Try.prog.info? 67).map (·.size) = some 1 := by kernel_rfl
theorem fa69_3 : FieldAt Try.prog 69 3 3 67 1 := fieldAt_of Try.underlying69 rfl rfl rfl sz67 (by decide)
theorem sl67 : Sl Try.prog 67 5 48 [.string ⟨#[]⟩, .string ⟨#[]⟩, .int .i8 0, .int .i8 0, .map none] := sl_of Try.underlying67 (by kernel_rfl) sz67 (by decide) rfl
theorem fa76_0 : FieldAt Try.prog 76 0 0 9 1 := fieldAt_of Try.underlying76 rfl rfl rfl sz9 (by decide)
theorem fa76_1 : FieldAt Try.prog 76 1 1 9 1 := fieldAt_of Try.underlying76 rfl rfl rfl sz9 (by decide)
theorem sz73 : (Try.prog.info? 73).map (·.size) = some 1 := by kernel_rfl
theorem fa76_2 : FieldAt Try.prog 76 2 2 73 1 := fieldAt_of Try.underlying76 rfl rfl rfl sz73 (by decide)
theorem one73 : One Try.prog 73 := one_of Try.underlying73 rfl sz73
theorem sz74 : (Try.prog.info? 74).map (·.size) = some 1 := by kernel_rfl
theorem fa76_3 : FieldAt Try.prog 76 3 3 74 1 := fieldAt_of Try.underlying76 rfl rfl rfl sz74 (by decide)
theorem one74 : One Try.prog 74 := one_of Try.underlying74 rfl sz74
theorem sz56 : (Try.prog.info? 56).map (·.size) = some 1 := by kernel_rfl
theorem fa76_4 : FieldAt Try.prog 76 4 4 56 1 := fieldAt_of Try.underlying76 rfl rfl rfl sz56 (by decide)
theorem fa69_4 : FieldAt Try.prog 69 4 4 56 1 := fieldAt_of Try.underlying69 rfl rfl rfl sz56 (by decide)
theorem fa58_5 : FieldAt Try.prog 58 5 5 56 1 := fieldAt_of Try.underlying58 rfl rfl rfl sz56 (by decide)
theorem fa58_0 : FieldAt Try.prog 58 0 0 38 1 := fieldAt_of Try.underlying58 rfl rfl rfl sz38 (by decide)
theorem okW : a.ok Try.prog 5 true true 58 := ⟨app_i32C, fun flex => ⟨fa58_1, (.inl ⟨one21, rfl, fun _ _ => rfl⟩)⟩, ⟨app_i16C, fun flex => ⟨fa58_2, (.inl ⟨one38, rfl, fun _ _ => rfl⟩)⟩, ⟨⟨rfl, app_cnstrC, app_nstrC⟩, fun flex => by cases flex <;> exact ⟨fa58_3, (.inl ⟨one52, rfl, fun _ _ => rfl⟩)⟩, ⟨rfl, ⟨rfl, len_compact, len_plain⟩, fa58_4, sl53, ⟨app_i8C, fun flex => ⟨fa69_0, (.inl ⟨one65, rfl, fun _ _ => rfl⟩)⟩, ⟨⟨rfl, app_cstrC, app_strC⟩, fun flex => by cases flex <;> exact ⟨fa69_1, (.inl ⟨one9, rfl, fun _ _ => rfl⟩)⟩, ⟨app_i8C, fun flex => ⟨fa69_2, (.inl ⟨one66, rfl, fun _ _ => rfl⟩)⟩, ⟨rfl, ⟨rfl, len_compact, len_plain⟩, fa69_3, sl67, ⟨⟨rfl, app_cstrC, app_strC⟩, fun flex => by cases flex <;> exact ⟨fa76_0, (.inl ⟨one9, rfl, fun _ _ => rfl⟩)⟩, ⟨⟨rfl, app_cstrC, app_strC⟩, fun flex => by cases flex <;> exact ⟨fa76_1, (.inl ⟨one9, rfl, fun _ _ => rfl⟩)⟩, ⟨app_i8C, fun flex => ⟨fa76_2, (.inl ⟨one73, rfl, fun _ _ => rfl⟩)⟩, ⟨app_i8C, fun flex => ⟨fa76_3, (.inl ⟨one74, rfl, fun _ _ => rfl⟩)⟩, ⟨rfl, fa76_4, tags_len, app_uvarint, tags_each, trivial⟩⟩⟩⟩⟩, ⟨rfl, fa69_4, tags_len, app_uvarint, tags_each, trivial⟩⟩⟩⟩⟩, ⟨rfl, fa58_5, tags_len, app_uvarint, tags_each, trivial⟩⟩⟩⟩⟩
theorem msgW : MsgW Try.prog hn true 58 38 M1 Try.f23.ntmps (some 2) a := ⟨und_int, und_u32, one_i16, fa58_0, okW, rfl, by decide, by decide⟩
theorem plain_of {F : Nat} {fn : Func} (hf : Try.prog.funcs[F]? = some fn) (hb : fn.body.isNone = false) (hn : (fn.name == "runtime.NumGoroutine") = false) : Plain Try.prog F := ⟨fn, hf, hb, hn⟩
noncomputable def bP : Code := (Try.f19.body).getD .skip
noncomputable def bS : Code := (Try.f22.body).getD .skip
noncomputable def bV : Code := (Try.f20.body).getD .skip
noncomputable def bX : Code := (Try.f6.body).getD .skip
noncomputable def bN : Code := (Try.f9.body).getD .skip
theorem codeP : Try.f19.body = some (gNP 35 58 39 bP) := by kernel_rfl
theorem codeS : Try.f22.body = some (gSV 58 38 bS) := by kernel_rfl
theorem codeV : Try.f20.body = some (gK (.int .i16 0) (.int .i16 3) bV) := by kernel_rfl
theorem codeX : Try.f6.body = some (gMx 19 20 39 38 3 bX) := by kernel_rfl
theorem codeN : Try.f9.body = some (gNewM 19 22 23 39 28 3 38 bN) := by kernel_rfl
theorem alc : Alc Try.prog 58 #[.int .i16 0, .int .i32 0, .int .i16 0, .pointer none, .slice none 0 0, .map none] := fun o a w h => by
  obtain ⟨d, op, t, p, af, g⟩ := o
  simp only at h
  subst h
  kernel_rfl
theorem defv : DefV Try.prog 35 58 #[.int .i16 0, .int .i32 0, .int .i16 0, .pointer none, .slice none 0 0, .map none] #[.int .i16 0, .int .i32 0, .int .i16 0, .pointer none, .slice none 0 0, .map none] := defV_skip Try.func35 rfl rfl rfl
theorem new_calls (w : World) : Calls Try.prog 19 #[] w (NewVP #[.int .i16 0, .int .i32 0, .int .i16 0, .pointer none, .slice none 0 0, .map none] 58 w) :=
  NPV_calls Try.func19 bP codeP Try.results19 Try.ntmps19 alc defv
theorem set_calls (w : World) (b : Nat) (n : Int) (hb : Blk w b 6) : Calls Try.prog 22 #[.pointer (some ⟨b, 0, none⟩), .int .i16 n] w fun e w' => e = .returned (.tuple #[]) ∧ Only (· = b) w w' ∧ Upd b 0 1 w w' ∧ w'.cell? ⟨b, 0, none⟩ = some (.int .i16 n) :=
  SV_calls Try.func22 bS codeS Try.results22 Try.ntmps22 fa58_0 hb (by decide)
theorem max_calls (w : World) : Calls Try.prog 6 #[] w fun e w' => e = .returned (.int .i64 3) ∧ Only (fun _ => False) w w' :=
  Mx_calls Try.func6 bX codeX Try.results6 Try.ntmps6 und_int Try.underlying38 (plain_of Try.func19 rfl rfl) (plain_of Try.func20 rfl rfl) ((new_calls w).mono fun e w' h => ⟨_, h.1, h.2.1⟩) fun v w' => K_calls Try.func20 bV codeV Try.results20 Try.ntmps20
def zs (ver : Int) : List Value := .int .i16 ver :: (#[.int .i16 0, .int .i32 0, .int .i16 0, .pointer none, .slice none 0 0, .map none] : Array Value).toList.tail
theorem new_msg {w : World} {ver : Int} {x : Val} (hr : IntKind.i16.wrap ver = ver) (hx : a.x0 ver (flexOf (some 2) ver) (zs ver) = some x) (hw : wf (a.m ver (flexOf (some 2) ver)).w x) (hl : (enc (a.m ver (flexOf (some 2) ver)).w x).length + 16 ≤ lim2) :
    Calls Try.prog 9 #[.int .i64 ver] w (SpP 5 w (enc (a.m ver (flexOf (some 2) ver)).w x)) :=
  NewM_calls Try.func9 bN codeN Try.results9 Try.ntmps9 (plain_of Try.func19 rfl rfl) (plain_of Try.func22 rfl rfl) (plain_of Try.func23 rfl rfl) und_int Try.underlying38 rfl (by decide) new_calls set_calls
    (fun w D b lo hi ver x hv hH hw hl hb hh hlo hD => appendTo_calls msgW Try.func23 bW codeW Try.results23 rfl hv hH hw hl hb hh (fun h => by cases h) hD) hr hx hw hl
end Go.Proofs.Ytffgggfendppiaa.Kf.MDescribeACLsResponse
