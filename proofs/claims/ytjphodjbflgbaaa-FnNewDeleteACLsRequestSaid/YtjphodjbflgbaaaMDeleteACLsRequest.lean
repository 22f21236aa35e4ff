/- DeleteACLsRequest: the writer's schema; what a new one comes to. -/
import Derived.Test.YtjphodjbflgbaaaMsgV
import Derived.Test.YtjphodjbflgbaaaLawA
import Derived.Test.YtjphodjbflgbaaaDfA
import Derived.Test.YtjphodjbflgbaaaNewA
import Derived.Handy
import Derived.Test.YtjphodjbflgbaaaTagG
import Derived.Test.YtjphodjbflgbaaaKbT
namespace Go.Proofs.Ytjphodjbflgbaaa.Kf.MDeleteACLsRequest
set_option linter.unusedVariables false
set_option linter.unusedSimpArgs false
set_option maxRecDepth 100000
open Go Go.RowKit

def a : A := .arrS .all 1 1 64 56 [.int .i8 0, .pointer none, .int .i8 0, .pointer none, .pointer none, .int .i8 0, .int .i8 0, .map none] none (.two false 36 37) 79 (.val .all 0 0 73 (.en (.prim .i8) 38 72) (.val .all 1 1 74 (.two (.str true true) (.str false true) 39 40) (.val (.ge 1) 2 2 75 (.en (.prim .i8) 38 72) (.val .all 3 3 74 (.two (.str true true) (.str false true) 39 40) (.val .all 4 4 74 (.two (.str true true) (.str false true) 39 40) (.val .all 5 5 76 (.en (.prim .i8) 38 72) (.val .all 6 6 77 (.en (.prim .i8) 38 72) (.tags 7 7 67 42 41 43 .done)))))))) (.tags 2 2 67 42 41 43 .done)
noncomputable def bW : Code := (Try.f24.body).getD .skip
def M1 : Nat := Nat.max ((if ((some 2) : Option Int).isSome then 7 else 6) + a.k) 7
theorem codeW : Try.f24.body = some (gWrite hn 69 38 M1 (some 2) a bW) := by kernel_rfl
theorem sz64 : (Try.prog.info? 64).map (·.size) = some 1 := by kernel_rfl
theorem fa69_1 : FieldAt Try.prog 69 1 1 64 1 := fieldAt_of Try.underlying69 rfl rfl rfl sz64 (by decide)
theorem sl64 : Sl Try.prog 64 8 56 [.int .i8 0, .pointer none, .int .i8 0, .pointer none, .pointer none, .int .i8 0, .int .i8 0, .map none] := sl_of Try.underlying64 (by kernel_rfl) sz64 (by decide) rfl
theorem sz73 : (Try.prog.info? 73).map (·.size) = some 1 := by kernel_rfl
theorem fa79_0 : FieldAt Try.prog 79 0 0 73 1 := fieldAt_of Try.underlying79 rfl rfl rfl sz73 (by decide)
theorem one73 : One Try.prog 73 := one_of Try.underlying73 rfl sz73
theorem sz74 : (Try.prog.info? 74).map (·.size) = some 1 := by kernel_rfl
theorem fa79_1 : FieldAt Try.prog 79 1 1 74 1 := fieldAt_of Try.underlying79 rfl rfl rfl sz74 (by decide)
theorem one74 : One Try.prog 74 := one_of Try.underlying74 rfl sz74
theorem sz75 : (Try.prog.info? 75).map (·.size) = some 1 := by kernel_rfl
theorem fa79_2 : FieldAt Try.prog 79 2 2 75 1 := fieldAt_of Try.underlying79 rfl rfl rfl sz75 (by decide)
theorem one75 : One Try.prog 75 := one_of Try.underlying75 rfl sz75
theorem fa79_3 : FieldAt Try.prog 79 3 3 74 1 := fieldAt_of Try.underlying79 rfl rfl rfl sz74 (by decide)
theorem fa79_4 : FieldAt Try.prog 79 4 4 74 1 := fieldAt_of Try.underlying79 rfl rfl rfl sz74 (by decide)
theorem sz76 : (Try.prog.info? 76).map (·.size) = some 1 := by kernel_rfl
theorem fa79_5 : FieldAt Try.prog 79 5 5 76 1 := fieldAt_of Try.underlying79 rfl rfl rfl sz76 (by decide)
theorem one76 : One Try.prog 76 := one_of Try.underlying76 rfl sz76
theorem sz77 : (Try.prog.info? 77).map (·.size) = some 1 := by kernel_rfl
theorem fa79_6 : FieldAt Try.prog 79 6 6 77 1 := fieldAt_of Try.underlying79 rfl rfl rfl sz77 (by decide)
theorem one77 : One Try.prog 77 := one_of Try.underlying77 rfl sz77
theorem sz67 : (Try.prog.info? 67).map (·.size) = some 1 := by kernel_rfl
theorem fa79_7 : FieldAt Try.prog 79 7 7 67 1 := fieldAt_of Try.underlying79 rfl rfl rfl sz67 (by decide)
theorem fa69_2 : FieldAt Try.prog 69 2 2 67 1 := fieldAt_of Try.underlying69 rfl rfl rfl sz67 (by decide)
theorem sz38 : (Try.prog.info? 38).map (·.size) = some 1 := by kernel_rfl
theorem fa69_0 : FieldAt Try.prog 69 0 0 38 1 := fieldAt_of Try.underlying69 rfl rfl rfl sz38 (by decide)
theorem okW : a.ok Try.prog 5 true true 69 := ⟨rfl, ⟨rfl, len_compact, len_plain⟩, fa69_1, sl64, ⟨app_i8C, fun flex => ⟨fa79_0, (.inl ⟨one73, rfl, fun _ _ => rfl⟩)⟩, ⟨⟨rfl, app_cnstrC, app_nstrC⟩, fun flex => by cases flex <;> exact ⟨fa79_1, (.inl ⟨one74, rfl, fun _ _ => rfl⟩)⟩, ⟨app_i8C, fun flex => ⟨fa79_2, (.inl ⟨one75, rfl, fun _ _ => rfl⟩)⟩, ⟨⟨rfl, app_cnstrC, app_nstrC⟩, fun flex => by cases flex <;> exact ⟨fa79_3, (.inl ⟨one74, rfl, fun _ _ => rfl⟩)⟩, ⟨⟨rfl, app_cnstrC, app_nstrC⟩, fun flex => by cases flex <;> exact ⟨fa79_4, (.inl ⟨one74, rfl, fun _ _ => rfl⟩)⟩, ⟨app_i8C, fun flex => ⟨fa79_5, (.inl ⟨one76, rfl, fun _ _ => rfl⟩)⟩, ⟨app_i8C, fun flex => ⟨fa79_6, (.inl ⟨one77, rfl, fun _ _ => rfl⟩)⟩, ⟨rfl, fa79_7, tags_len, app_uvarint, tags_each, trivial⟩⟩⟩⟩⟩⟩⟩⟩, ⟨rfl, fa69_2, tags_len, app_uvarint, tags_each, trivial⟩⟩
theorem msgW : MsgW Try.prog hn true 69 38 M1 Try.f24.ntmps (some 2) a := ⟨und_int, und_u32, one_i16, fa69_0, okW, rfl, by decide, by decide⟩
theorem plain_of {F : Nat} {fn : Func} (hf : Try.prog.funcs[F]? = some fn) (hb : fn.body.isNone = false) (hn : (fn.name == "runtime.NumGoroutine") = false) : Plain Try.prog F := ⟨fn, hf, hb, hn⟩
noncomputable def bP : Code := (Try.f20.body).getD .skip
noncomputable def bS : Code := (Try.f23.body).getD .skip
noncomputable def bV : Code := (Try.f21.body).getD .skip
noncomputable def bX : Code := (Try.f12.body).getD .skip
noncomputable def bN : Code := (Try.f14.body).getD .skip
theorem codeP : Try.f20.body = some (gNP 35 69 47 bP) := by kernel_rfl
theorem codeS : Try.f23.body = some (gSV 69 38 bS) := by kernel_rfl
theorem codeV : Try.f21.body = some (gK (.int .i16 0) (.int .i16 3) bV) := by kernel_rfl
theorem codeX : Try.f12.body = some (gMx 20 21 47 38 3 bX) := by kernel_rfl
theorem codeN : Try.f14.body = some (gNewM 20 23 24 47 28 3 38 bN) := by kernel_rfl
theorem alc : Alc Try.prog 69 #[.int .i16 0, .slice none 0 0, .map none] := fun o a w h => by
  obtain ⟨d, op, t, p, af, g⟩ := o
  simp only at h
  subst h
  kernel_rfl
theorem defv : DefV Try.prog 35 69 #[.int .i16 0, .slice none 0 0, .map none] #[.int .i16 0, .slice none 0 0, .map none] := defV_skip Try.func35 rfl rfl rfl
theorem new_calls (w : World) : Calls Try.prog 20 #[] w (NewVP #[.int .i16 0, .slice none 0 0, .map none] 69 w) :=
  NPV_calls Try.func20 bP codeP Try.results20 Try.ntmps20 alc defv
theorem set_calls (w : World) (b : Nat) (n : Int) (hb : Blk w b 3) : Calls Try.prog 23 #[.pointer (some ⟨b, 0, none⟩), .int .i16 n] w fun e w' => e = .returned (.tuple #[]) ∧ Only (· = b) w w' ∧ Upd b 0 1 w w' ∧ w'.cell? ⟨b, 0, none⟩ = some (.int .i16 n) :=
  SV_calls Try.func23 bS codeS Try.results23 Try.ntmps23 fa69_0 hb (by decide)
theorem max_calls (w : World) : Calls Try.prog 12 #[] w fun e w' => e = .returned (.int .i64 3) ∧ Only (fun _ => False) w w' :=
  Mx_calls Try.func12 bX codeX Try.results12 Try.ntmps12 und_int Try.underlying38 (plain_of Try.func20 rfl rfl) (plain_of Try.func21 rfl rfl) ((new_calls w).mono fun e w' h => ⟨_, h.1, h.2.1⟩) fun v w' => K_calls Try.func21 bV codeV Try.results21 Try.ntmps21
def zs (ver : Int) : List Value := .int .i16 ver :: (#[.int .i16 0, .slice none 0 0, .map none] : Array Value).toList.tail
theorem new_msg {w : World} {ver : Int} {x : Val} (hr : IntKind.i16.wrap ver = ver) (hx : a.x0 ver (flexOf (some 2) ver) (zs ver) = some x) (hw : wf (a.m ver (flexOf (some 2) ver)).w x) (hl : (enc (a.m ver (flexOf (some 2) ver)).w x).length + 16 ≤ lim2) :
    Calls Try.prog 14 #[.int .i64 ver] w (SpP 5 w (enc (a.m ver (flexOf (some 2) ver)).w x)) :=
  NewM_calls Try.func14 bN codeN Try.results14 Try.ntmps14 (plain_of Try.func20 rfl rfl) (plain_of Try.func23 rfl rfl) (plain_of Try.func24 rfl rfl) und_int Try.underlying38 rfl (by decide) new_calls set_calls
    (fun w D b lo hi ver x hv hH hw hl hb hh hlo hD => appendTo_calls msgW Try.func24 bW codeW Try.results24 rfl hv hH hw hl hb hh (fun h => by cases h) hD) hr hx hw hl
end Go.Proofs.Ytjphodjbflgbaaa.Kf.MDeleteACLsRequest
