/- FindCoordinatorRequest: the writer's schema; what a new one comes to. -/
import Derived.Test.YtcjlboannomanaaMsgV
import Derived.Test.YtcjlboannomanaaLawA
import Derived.Test.YtcjlboannomanaaDfA
import Derived.Test.YtcjlboannomanaaNewA
import Derived.Handy
import Derived.Test.YtcjlboannomanaaTagG
import Derived.Test.YtcjlboannomanaaKbT
namespace Go.Proofs.Ytcjlboannomanaa.Kf.MFindCoordinatorRequest
set_option linter.unusedVariables false
set_option linter.unusedSimpArgs false
set_option maxRecDepth 100000
open Go Go.RowKit

def a : A := .val (.rng 0 3) 1 1 9 (.two (.str true false) (.str false false) 96 97) (.val (.ge 1) 2 2 97 (.one (.prim .i8) 98) (.arrV (.ge 4) 3 3 98 16 [.string ⟨#[]⟩] none (.two false 99 100) 9 (.two (.str true false) (.str false false) 96 97) (.tags 4 4 63 102 101 103 .done)))
noncomputable def bW : Code := (Try.f57.body).getD .skip
def M1 : Nat := Nat.max ((if ((some 3) : Option Int).isSome then 7 else 6) + a.k) 7
theorem codeW : Try.f57.body = some (gWrite hn 100 68 M1 (some 3) a bW) := by kernel_rfl
theorem sz9 : (Try.prog.info? 9).map (·.size) = some 1 := by kernel_rfl
theorem fa100_1 : FieldAt Try.prog 100 1 1 9 1 := fieldAt_of Try.underlying100 rfl rfl rfl sz9 (by decide)
theorem one9 : One Try.prog 9 := one_of Try.underlying9 rfl sz9
theorem sz97 : (Try.prog.info? 97).map (·.size) = some 1 := by kernel_rfl
theorem fa100_2 : FieldAt Try.prog 100 2 2 97 1 := fieldAt_of Try.underlying100 rfl rfl rfl sz97 (by decide)
theorem one97 : One Try.prog 97 := one_of Try.underlying97 rfl sz97
theorem sz98 : (Try.prog.info? 98).map (·.size) = some 1 := by kernel_rfl
theorem fa100_3 : FieldAt Try.prog 100 3 3 98 1 := fieldAt_of Try.underlying100 rfl rfl rfl sz98 (by decide)
theorem sl98 : Sl Try.prog 98 1 16 [.string ⟨#[]⟩] := sl_of Try.underlying98 (by kernel_rfl) sz98 (by decide) rfl
theorem sz63 : (Try.prog.info? 63).map (·.size) = some 1 := by kernel_rfl
theorem fa100_4 : FieldAt Try.prog 100 4 4 63 1 := fieldAt_of Try.underlying100 rfl rfl rfl sz63 (by decide)
theorem sz68 : (Try.prog.info? 68).map (·.size) = some 1 := by kernel_rfl
theorem fa100_0 : FieldAt Try.prog 100 0 0 68 1 := fieldAt_of Try.underlying100 rfl rfl rfl sz68 (by decide)
theorem okW : a.ok Try.prog 5 true true 100 := ⟨⟨rfl, app_cstrC, app_strC⟩, fun flex => by cases flex <;> exact ⟨fa100_1, (.inl ⟨one9, rfl, fun _ _ => rfl⟩)⟩, ⟨app_i8C, fun flex => ⟨fa100_2, (.inl ⟨one97, rfl, fun _ _ => rfl⟩)⟩, ⟨rfl, ⟨rfl, len_compact, len_plain⟩, fa100_3, sl98, ⟨rfl, app_cstrC, app_strC⟩, fun flex => ⟨by cases flex <;> rfl, by cases flex <;> exact (.inl ⟨one9, rfl, fun _ _ => rfl⟩)⟩, ⟨rfl, fa100_4, tags_len, app_uvarint, tags_each, trivial⟩⟩⟩⟩
theorem msgW : MsgW Try.prog hn true 100 68 M1 Try.f57.ntmps (some 3) a := ⟨und_int, und_u32, one_i16, fa100_0, okW, rfl, by decide, by decide⟩
theorem plain_of {F : Nat} {fn : Func} (hf : Try.prog.funcs[F]? = some fn) (hb : fn.body.isNone = false) (hn : (fn.name == "runtime.NumGoroutine") = false) : Plain Try.prog F := ⟨fn, hf, hb, hn⟩
noncomputable def bP : Code := (Try.f54.body).getD .skip
noncomputable def bS : Code := (Try.f56.body).getD .skip
noncomputable def bV : Code := (Try.f55.body).getD .skip
noncomputable def bX : Code := (Try.f21.body).getD .skip
noncomputable def bN : Code := (Try.f24.body).getD .skip
theorem codeP : Try.f54.body = some (gNP 95 100 69 bP) := by kernel_rfl
theorem codeS : Try.f56.body = some (gSV 100 68 bS) := by kernel_rfl
theorem codeV : Try.f55.body = some (gK (.int .i16 0) (.int .i16 6) bV) := by kernel_rfl
theorem codeX : Try.f21.body = some (gMx 54 55 69 68 3 bX) := by kernel_rfl
theorem codeN : Try.f24.body = some (gNewM 54 56 57 69 23 3 68 bN) := by kernel_rfl
theorem alc : Alc Try.prog 100 #[.int .i16 0, .string ⟨#[]⟩, .int .i8 0, .slice none 0 0, .map none] := fun o a w h => by
  obtain ⟨d, op, t, p, af, g⟩ := o
  simp only at h
  subst h
  kernel_rfl
theorem new_calls (w : World) : Calls Try.prog 54 #[] w (NewVP #[.int .i16 0, .string ⟨#[]⟩, .int .i8 0, .slice none 0 0, .map none] 100 w) :=
  NPV_calls Try.func54 bP codeP Try.results54 Try.ntmps54 alc (defV_skip Try.func95 rfl rfl rfl)
theorem set_calls (w : World) (b : Nat) (n : Int) (hb : Blk w b 5) : Calls Try.prog 56 #[.pointer (some ⟨b, 0, none⟩), .int .i16 n] w fun e w' => e = .returned (.tuple #[]) ∧ Only (· = b) w w' ∧ Upd b 0 1 w w' ∧ w'.cell? ⟨b, 0, none⟩ = some (.int .i16 n) :=
  SV_calls Try.func56 bS codeS Try.results56 Try.ntmps56 fa100_0 hb (by decide)
theorem max_calls (w : World) : Calls Try.prog 21 #[] w fun e w' => e = .returned (.int .i64 6) ∧ Only (fun _ => False) w w' :=
  Mx_calls Try.func21 bX codeX Try.results21 Try.ntmps21 und_int Try.underlying68 (plain_of Try.func54 rfl rfl) (plain_of Try.func55 rfl rfl) ((new_calls w).mono fun e w' h => ⟨_, h.1, h.2.1⟩) fun v w' => K_calls Try.func55 bV codeV Try.results55 Try.ntmps55
def zs (ver : Int) : List Value := .int .i16 ver :: (#[.int .i16 0, .string ⟨#[]⟩, .int .i8 0, .slice none 0 0, .map none] : Array Value).toList.tail
theorem new_msg {w : World} {ver : Int} {x : Val} (hr : IntKind.i16.wrap ver = ver) (hx : a.x0 ver (flexOf (some 3) ver) (zs ver) = some x) (hw : wf (a.m ver (flexOf (some 3) ver)).w x) (hl : (enc (a.m ver (flexOf (some 3) ver)).w x).length + 16 ≤ lim2) :
    Calls Try.prog 24 #[.int .i64 ver] w (SpP 5 w (enc (a.m ver (flexOf (some 3) ver)).w x)) :=
  NewM_calls Try.func24 bN codeN Try.results24 Try.ntmps24 (plain_of Try.func54 rfl rfl) (plain_of Try.func56 rfl rfl) (plain_of Try.func57 rfl rfl) und_int Try.underlying68 rfl (by decide) new_calls set_calls
    (fun w D b lo hi ver x hv hH hw hl hb hh hlo hD => appendTo_calls msgW Try.func57 bW codeW Try.results57 rfl hv hH hw hl hb hh (fun h => by cases h) hD) hr hx hw hl
end Go.Proofs.Ytcjlboannomanaa.Kf.MFindCoordinatorRequest
