/- SASLHandshakeRequest: the writer's schema; what a new one comes to. -/
import Derived.Test.YtjphodjbflgbaaaMsgV
import Derived.Test.YtjphodjbflgbaaaLawA
import Derived.Test.YtjphodjbflgbaaaDfA
import Derived.Test.YtjphodjbflgbaaaNewA
import Derived.Handy
namespace Go.Proofs.Ytjphodjbflgbaaa.Kf.MSASLHandshakeRequest
set_option linter.unusedVariables false
set_option linter.unusedSimpArgs false
set_option maxRecDepth 100000
open Go Go.RowKit

def a : A := .val .all 1 1 9 (.one (.str false false) 26) .done
noncomputable def bW : Code := (Try.f18.body).getD .skip
def M1 : Nat := Nat.max ((if (none : Option Int).isSome then 7 else 6) + a.k) 7
theorem codeW : Try.f18.body = some (gWrite hn 51 38 M1 none a bW) := by kernel_rfl
theorem sz9 : (Try.prog.info? 9).map (·.size) = some 1 := by kernel_rfl
theorem fa51_1 : FieldAt Try.prog 51 1 1 9 1 := fieldAt_of Try.underlying51 rfl rfl rfl sz9 (by decide)
theorem one9 : One Try.prog 9 := one_of Try.underlying9 rfl sz9
theorem sz38 : (Try.prog.info? 38).map (·.size) = some 1 := by kernel_rfl
theorem fa51_0 : FieldAt Try.prog 51 0 0 38 1 := fieldAt_of Try.underlying51 rfl rfl rfl sz38 (by decide)
theorem okW : a.ok Try.prog 5 true false 51 := ⟨app_strC, fun flex => ⟨fa51_1, (.inl ⟨one9, rfl, fun _ _ => rfl⟩)⟩, trivial⟩
theorem msgW : MsgW Try.prog hn true 51 38 M1 Try.f18.ntmps none a := ⟨und_int, und_u32, one_i16, fa51_0, okW, rfl, by decide, by decide⟩
theorem plain_of {F : Nat} {fn : Func} (hf : Try.prog.funcs[F]? = some fn) (hb : fn.body.isNone = false) (hn : (fn.name == "runtime.NumGoroutine") = false) : Plain Try.prog F := ⟨fn, hf, hb, hn⟩
noncomputable def bP : Code := (Try.f15.body).getD .skip
noncomputable def bS : Code := (Try.f17.body).getD .skip
noncomputable def bV : Code := (Try.f16.body).getD .skip
noncomputable def bX : Code := (Try.f5.body).getD .skip
noncomputable def bN : Code := (Try.f8.body).getD .skip
theorem codeP : Try.f15.body = some (gNP 25 51 39 bP) := by kernel_rfl
theorem codeS : Try.f17.body = some (gSV 51 38 bS) := by kernel_rfl
theorem codeV : Try.f16.body = some (gK (.int .i16 0) (.int .i16 1) bV) := by kernel_rfl
theorem codeX : Try.f5.body = some (gMx 15 16 39 38 3 bX) := by kernel_rfl
theorem codeN : Try.f8.body = some (gNewM 15 17 18 39 28 3 38 bN) := by kernel_rfl
theorem alc : Alc Try.prog 51 #[.int .i16 0, .string ⟨#[]⟩] := fun o a w h => by
  obtain ⟨d, op, t, p, af, g⟩ := o
  simp only at h
  subst h
  kernel_rfl
theorem defv : DefV Try.prog 25 51 #[.int .i16 0, .string ⟨#[]⟩] #[.int .i16 0, .string ⟨#[]⟩] := defV_skip Try.func25 rfl rfl rfl
theorem new_calls (w : World) : Calls Try.prog 15 #[] w (NewVP #[.int .i16 0, .string ⟨#[]⟩] 51 w) :=
  NPV_calls Try.func15 bP codeP Try.results15 Try.ntmps15 alc defv
theorem set_calls (w : World) (b : Nat) (n : Int) (hb : Blk w b 2) : Calls Try.prog 17 #[.pointer (some ⟨b, 0, none⟩), .int .i16 n] w fun e w' => e = .returned (.tuple #[]) ∧ Only (· = b) w w' ∧ Upd b 0 1 w w' ∧ w'.cell? ⟨b, 0, none⟩ = some (.int .i16 n) :=
  SV_calls Try.func17 bS codeS Try.results17 Try.ntmps17 fa51_0 hb (by decide)
theorem max_calls (w : World) : Calls Try.prog 5 #[] w fun e w' => e = .returned (.int .i64 1) ∧ Only (fun _ => False) w w' :=
  Mx_calls Try.func5 bX codeX Try.results5 Try.ntmps5 und_int Try.underlying38 (plain_of Try.func15 rfl rfl) (plain_of Try.func16 rfl rfl) ((new_calls w).mono fun e w' h => ⟨_, h.1, h.2.1⟩) fun v w' => K_calls Try.func16 bV codeV Try.results16 Try.ntmps16
def zs (ver : Int) : List Value := .int .i16 ver :: (#[.int .i16 0, .string ⟨#[]⟩] : Array Value).toList.tail
theorem new_msg {w : World} {ver : Int} {x : Val} (hr : IntKind.i16.wrap ver = ver) (hx : a.x0 ver (flexOf none ver) (zs ver) = some x) (hw : wf (a.m ver (flexOf none ver)).w x) (hl : (enc (a.m ver (flexOf none ver)).w x).length + 16 ≤ lim2) :
    Calls Try.prog 8 #[.int .i64 ver] w (SpP 5 w (enc (a.m ver (flexOf none ver)).w x)) :=
  NewM_calls Try.func8 bN codeN Try.results8 Try.ntmps8 (plain_of Try.func15 rfl rfl) (plain_of Try.func17 rfl rfl) (plain_of Try.func18 rfl rfl) und_int Try.underlying38 rfl (by decide) new_calls set_calls
    (fun w D b lo hi ver x hv hH hw hl hb hh hlo hD => appendTo_calls msgW Try.func18 bW codeW Try.results18 rfl hv hH hw hl hb hh (fun h => by cases h) hD) hr hx hw hl
end Go.Proofs.Ytjphodjbflgbaaa.Kf.MSASLHandshakeRequest
