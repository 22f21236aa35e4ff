/- DescribeProducersRequest: the writer's schema; what a new one comes to. -/
import Derived.Test.YtcjlboannomanaaMsgV
import Derived.Test.YtcjlboannomanaaLawA
import Derived.Test.YtcjlboannomanaaDfA
import Derived.Test.YtcjlboannomanaaNewA
import Derived.Handy
import Derived.Test.YtcjlboannomanaaTagG
import Derived.Test.YtcjlboannomanaaKbT
namespace Go.Proofs.Ytcjlboannomanaa.Kf.MDescribeProducersRequest
set_option linter.unusedVariables false
set_option linter.unusedSimpArgs false
set_option maxRecDepth 100000
open Go Go.RowKit

def a : A := .arrS .all 1 1 116 48 [.string ⟨#[]⟩, .slice none 0 0, .map none] none (.two false 99 100) 122 (.val .all 0 0 9 (.two (.str true false) (.str false false) 96 97) (.arrV .all 1 1 120 4 [.int .i32 0] none (.two false 99 100) 21 (.one (.prim .i32) 114) (.tags 2 2 63 102 101 103 .done))) (.tags 2 2 63 102 101 103 .done)
noncomputable def bW : Code := (Try.f67.body).getD .skip
def M1 : Nat := Nat.max ((if ((some 0) : Option Int).isSome then 7 else 6) + a.k) 7
theorem codeW : Try.f67.body = some (gWrite hn 118 68 M1 (some 0) a bW) := by kernel_rfl
theorem sz116 : (Try.prog.info? 116).map (·.size) = some 1 := by kernel_rfl
theorem fa118_1 : FieldAt Try.prog 118 1 1 116 1 := fieldAt_of Try.underlying118 rfl rfl rfl sz116 (by decide)
theorem sl116 : Sl Try.prog 116 3 48 [.string ⟨#[]⟩, .slice none 0 0, .map none] := sl_of Try.underlying116 (by kernel_rfl) sz116 (by decide) rfl
theorem sz9 : (Try.prog.info? 9).map (·.size) = some 1 := by kernel_rfl
theorem fa122_0 : FieldAt Try.prog 122 0 0 9 1 := fieldAt_of Try.underlying122 rfl rfl rfl sz9 (by decide)
theorem one9 : One Try.prog 9 := one_of Try.underlying9 rfl sz9
theorem sz120 : (Try.prog.info? 120).map (·.size) = some 1 := by kernel_rfl
theorem fa122_1 : FieldAt Try.prog 122 1 1 120 1 := fieldAt_of Try.underlying122 rfl rfl rfl sz120 (by decide)
theorem sl120 : Sl Try.prog 120 1 4 [.int .i32 0] := sl_of Try.underlying120 (by kernel_rfl) sz120 (by decide) rfl
theorem sz21 : (Try.prog.info? 21).map (·.size) = some 1 := by kernel_rfl
theorem one21 : One Try.prog 21 := one_of Try.underlying21 rfl sz21
theorem sz63 : (Try.prog.info? 63).map (·.size) = some 1 := by kernel_rfl
theorem fa122_2 : FieldAt Try.prog 122 2 2 63 1 := fieldAt_of Try.underlying122 rfl rfl rfl sz63 (by decide)
theorem fa118_2 : FieldAt Try.prog 118 2 2 63 1 := fieldAt_of Try.underlying118 rfl rfl rfl sz63 (by decide)
theorem sz68 : (Try.prog.info? 68).map (·.size) = some 1 := by kernel_rfl
theorem fa118_0 : FieldAt Try.prog 118 0 0 68 1 := fieldAt_of Try.underlying118 rfl rfl rfl sz68 (by decide)
theorem okW : a.ok Try.prog 5 true true 118 := ⟨rfl, ⟨rfl, len_compact, len_plain⟩, fa118_1, sl116, ⟨⟨rfl, app_cstrC, app_strC⟩, fun flex => by cases flex <;> exact ⟨fa122_0, (.inl ⟨one9, rfl, fun _ _ => rfl⟩)⟩, ⟨rfl, ⟨rfl, len_compact, len_plain⟩, fa122_1, sl120, app_i32C, fun flex => ⟨by cases flex <;> rfl, by cases flex <;> exact (.inl ⟨one21, rfl, fun _ _ => rfl⟩)⟩, ⟨rfl, fa122_2, tags_len, app_uvarint, tags_each, trivial⟩⟩⟩, ⟨rfl, fa118_2, tags_len, app_uvarint, tags_each, trivial⟩⟩
theorem msgW : MsgW Try.prog hn true 118 68 M1 Try.f67.ntmps (some 0) a := ⟨und_int, und_u32, one_i16, fa118_0, okW, rfl, by decide, by decide⟩
theorem plain_of {F : Nat} {fn : Func} (hf : Try.prog.funcs[F]? = some fn) (hb : fn.body.isNone = false) (hn : (fn.name == "runtime.NumGoroutine") = false) : Plain Try.prog F := ⟨fn, hf, hb, hn⟩
noncomputable def bP : Code := (Try.f63.body).getD .skip
noncomputable def bS : Code := (Try.f66.body).getD .skip
noncomputable def bV : Code := (Try.f64.body).getD .skip
noncomputable def bX : Code := (Try.f31.body).getD .skip
noncomputable def bN : Code := (Try.f33.body).getD .skip
theorem codeP : Try.f63.body = some (gNP 115 118 79 bP) := by kernel_rfl
theorem codeS : Try.f66.body = some (gSV 118 68 bS) := by kernel_rfl
theorem codeV : Try.f64.body = some (gK (.int .i16 0) (.int .i16 0) bV) := by kernel_rfl
theorem codeX : Try.f31.body = some (gMx 63 64 79 68 3 bX) := by kernel_rfl
theorem codeN : Try.f33.body = some (gNewM 63 66 67 79 23 3 68 bN) := by kernel_rfl
theorem alc : Alc Try.prog 118 #[.int .i16 0, .slice none 0 0, .map none] := fun o a w h => by
  obtain ⟨d, op, t, p, af, g⟩ := o
  simp only at h
  subst h
  kernel_rfl
theorem new_calls (w : World) : Calls Try.prog 63 #[] w (NewVP #[.int .i16 0, .slice none 0 0, .map none] 118 w) :=
  NPV_calls Try.func63 bP codeP Try.results63 Try.ntmps63 alc (defV_skip Try.func115 rfl rfl rfl)
theorem set_calls (w : World) (b : Nat) (n : Int) (hb : Blk w b 3) : Calls Try.prog 66 #[.pointer (some ⟨b, 0, none⟩), .int .i16 n] w fun e w' => e = .returned (.tuple #[]) ∧ Only (· = b) w w' ∧ Upd b 0 1 w w' ∧ w'.cell? ⟨b, 0, none⟩ = some (.int .i16 n) :=
  SV_calls Try.func66 bS codeS Try.results66 Try.ntmps66 fa118_0 hb (by decide)
theorem max_calls (w : World) : Calls Try.prog 31 #[] w fun e w' => e = .returned (.int .i64 0) ∧ Only (fun _ => False) w w' :=
  Mx_calls Try.func31 bX codeX Try.results31 Try.ntmps31 und_int Try.underlying68 (plain_of Try.func63 rfl rfl) (plain_of Try.func64 rfl rfl) ((new_calls w).mono fun e w' h => ⟨_, h.1, h.2.1⟩) fun v w' => K_calls Try.func64 bV codeV Try.results64 Try.ntmps64
def zs (ver : Int) : List Value := .int .i16 ver :: (#[.int .i16 0, .slice none 0 0, .map none] : Array Value).toList.tail
theorem new_msg {w : World} {ver : Int} {x : Val} (hr : IntKind.i16.wrap ver = ver) (hx : a.x0 ver (flexOf (some 0) ver) (zs ver) = some x) (hw : wf (a.m ver (flexOf (some 0) ver)).w x) (hl : (enc (a.m ver (flexOf (some 0) ver)).w x).length + 16 ≤ lim2) :
    Calls Try.prog 33 #[.int .i64 ver] w (SpP 5 w (enc (a.m ver (flexOf (some 0) ver)).w x)) :=
  NewM_calls Try.func33 bN codeN Try.results33 Try.ntmps33 (plain_of Try.func63 rfl rfl) (plain_of Try.func66 rfl rfl) (plain_of Try.func67 rfl rfl) und_int Try.underlying68 rfl (by decide) new_calls set_calls
    (fun w D b lo hi ver x hv hH hw hl hb hh hlo hD => appendTo_calls msgW Try.func67 bW codeW Try.results67 rfl hv hH hw hl hb hh (fun h => by cases h) hD) hr hx hw hl
end Go.Proofs.Ytcjlboannomanaa.Kf.MDescribeProducersRequest
