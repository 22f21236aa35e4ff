/- ApiVersionsRequest: the writer's schema; what a new one comes to. -/
import Derived.Test.YtcjlboannomanaaMsgV
import Derived.Test.YtcjlboannomanaaLawA
import Derived.Test.YtcjlboannomanaaDfA
import Derived.Test.YtcjlboannomanaaNewA
import Derived.Handy
import Derived.Test.YtcjlboannomanaaTagG
import Derived.Test.YtcjlboannomanaaKbT
namespace Go.Proofs.Ytcjlboannomanaa.Kf.MApiVersionsRequest
set_option linter.unusedVariables false
set_option linter.unusedSimpArgs false
set_option maxRecDepth 100000
open Go Go.RowKit

def a : A := .val (.ge 3) 1 1 9 (.two (.str true false) (.str false false) 96 97) (.val (.ge 3) 2 2 9 (.two (.str true false) (.str false false) 96 97) (.val (.ge 5) 3 3 111 (.two (.str true true) (.str false true) 112 113) (.val (.ge 5) 4 4 21 (.one (.prim .i32) 114) (.tags 5 5 63 102 101 103 .done))))
noncomputable def bW : Code := (Try.f62.body).getD .skip
def M1 : Nat := Nat.max ((if ((some 3) : Option Int).isSome then 7 else 6) + a.k) 7
theorem codeW : Try.f62.body = some (gWrite hn 113 68 M1 (some 3) a bW) := by kernel_rfl
theorem sz9 : (Try.prog.info? 9).map (·.size) = some 1 := by kernel_rfl
theorem fa113_1 : FieldAt Try.prog 113 1 1 9 1 := fieldAt_of Try.underlying113 rfl rfl rfl sz9 (by decide)
theorem one9 : One Try.prog 9 := one_of Try.underlying9 rfl sz9
theorem fa113_2 : FieldAt Try.prog 113 2 2 9 1 := fieldAt_of Try.underlying113 rfl rfl rfl sz9 (by decide)
theorem sz111 : (Try.prog.info? 111).map (·.size) = some 1 := by kernel_rfl
theorem fa113_3 : FieldAt Try.prog 113 3 3 111 1 := fieldAt_of Try.underlying113 rfl rfl rfl sz111 (by decide)
theorem one111 : One Try.prog 111 := one_of Try.underlying111 rfl sz111
theorem sz21 : (Try.prog.info? 21).map (·.size) = some 1 := by kernel_rfl
theorem fa113_4 : FieldAt Try.prog 113 4 4 21 1 := fieldAt_of Try.underlying113 rfl rfl rfl sz21 (by decide)
theorem one21 : One Try.prog 21 := one_of Try.underlying21 rfl sz21
theorem sz63 : (Try.prog.info? 63).map (·.size) = some 1 := by kernel_rfl
theorem fa113_5 : FieldAt Try.prog 113 5 5 63 1 := fieldAt_of Try.underlying113 rfl rfl rfl sz63 (by decide)
theorem sz68 : (Try.prog.info? 68).map (·.size) = some 1 := by kernel_rfl
theorem fa113_0 : FieldAt Try.prog 113 0 0 68 1 := fieldAt_of Try.underlying113 rfl rfl rfl sz68 (by decide)
theorem okW : a.ok Try.prog 5 true true 113 := ⟨⟨rfl, app_cstrC, app_strC⟩, fun flex => by cases flex <;> exact ⟨fa113_1, (.inl ⟨one9, rfl, fun _ _ => rfl⟩)⟩, ⟨⟨rfl, app_cstrC, app_strC⟩, fun flex => by cases flex <;> exact ⟨fa113_2, (.inl ⟨one9, rfl, fun _ _ => rfl⟩)⟩, ⟨⟨rfl, app_cnstrC, app_nstrC⟩, fun flex => by cases flex <;> exact ⟨fa113_3, (.inl ⟨one111, rfl, fun _ _ => rfl⟩)⟩, ⟨app_i32C, fun flex => ⟨fa113_4, (.inl ⟨one21, rfl, fun _ _ => rfl⟩)⟩, ⟨rfl, fa113_5, tags_len, app_uvarint, tags_each, trivial⟩⟩⟩⟩⟩
theorem msgW : MsgW Try.prog hn true 113 68 M1 Try.f62.ntmps (some 3) a := ⟨und_int, und_u32, one_i16, fa113_0, okW, rfl, by decide, by decide⟩
theorem plain_of {F : Nat} {fn : Func} (hf : Try.prog.funcs[F]? = some fn) (hb : fn.body.isNone = false) (hn : (fn.name == "runtime.NumGoroutine") = false) : Plain Try.prog F := ⟨fn, hf, hb, hn⟩
noncomputable def bP : Code := (Try.f59.body).getD .skip
noncomputable def bS : Code := (Try.f61.body).getD .skip
noncomputable def bV : Code := (Try.f60.body).getD .skip
noncomputable def bX : Code := (Try.f28.body).getD .skip
noncomputable def bN : Code := (Try.f30.body).getD .skip
theorem codeP : Try.f59.body = some (gNP 111 113 77 bP) := by kernel_rfl
theorem codeS : Try.f61.body = some (gSV 113 68 bS) := by kernel_rfl
theorem codeV : Try.f60.body = some (gK (.int .i16 0) (.int .i16 5) bV) := by kernel_rfl
theorem codeX : Try.f28.body = some (gMx 59 60 77 68 3 bX) := by kernel_rfl
theorem codeN : Try.f30.body = some (gNewM 59 61 62 77 23 3 68 bN) := by kernel_rfl
theorem alc : Alc Try.prog 113 #[.int .i16 0, .string ⟨#[]⟩, .string ⟨#[]⟩, .pointer none, .int .i32 0, .map none] := fun o a w h => by
  obtain ⟨d, op, t, p, af, g⟩ := o
  simp only at h
  subst h
  kernel_rfl
theorem defv : DefV Try.prog 111 113 #[.int .i16 0, .string ⟨#[]⟩, .string ⟨#[]⟩, .pointer none, .int .i32 0, .map none] #[.int .i16 0, .string ⟨#[]⟩, .string ⟨#[]⟩, .pointer none, .int .i32 (-1), .map none] := ⟨plain_of Try.func111 rfl rfl, fun w b hb => by
  have c4 : w.cell? ⟨b, 4, none⟩ = some (.int .i32 0) := by simp [World.cell?, hb]
  have f4 : w.frozen? ⟨b, 4, none⟩ = false := by simp [World.frozen?, hb]
  go_enter Try.func111, Try.ntmps111
  go_wp2
  exact bodyPost_end (results_none rfl _ _ _) rfl ⟨_, rfl, (Only.refl _ _).setCell _ _, heap_setCell_same _ b 4 _ 113 (.int .i32 (-1)) (hb)⟩⟩
theorem new_calls (w : World) : Calls Try.prog 59 #[] w (NewVP #[.int .i16 0, .string ⟨#[]⟩, .string ⟨#[]⟩, .pointer none, .int .i32 (-1), .map none] 113 w) :=
  NPV_calls Try.func59 bP codeP Try.results59 Try.ntmps59 alc defv
theorem set_calls (w : World) (b : Nat) (n : Int) (hb : Blk w b 6) : Calls Try.prog 61 #[.pointer (some ⟨b, 0, none⟩), .int .i16 n] w fun e w' => e = .returned (.tuple #[]) ∧ Only (· = b) w w' ∧ Upd b 0 1 w w' ∧ w'.cell? ⟨b, 0, none⟩ = some (.int .i16 n) :=
  SV_calls Try.func61 bS codeS Try.results61 Try.ntmps61 fa113_0 hb (by decide)
theorem max_calls (w : World) : Calls Try.prog 28 #[] w fun e w' => e = .returned (.int .i64 5) ∧ Only (fun _ => False) w w' :=
  Mx_calls Try.func28 bX codeX Try.results28 Try.ntmps28 und_int Try.underlying68 (plain_of Try.func59 rfl rfl) (plain_of Try.func60 rfl rfl) ((new_calls w).mono fun e w' h => ⟨_, h.1, h.2.1⟩) fun v w' => K_calls Try.func60 bV codeV Try.results60 Try.ntmps60
def zs (ver : Int) : List Value := .int .i16 ver :: (#[.int .i16 0, .string ⟨#[]⟩, .string ⟨#[]⟩, .pointer none, .int .i32 (-1), .map none] : Array Value).toList.tail
theorem new_msg {w : World} {ver : Int} {x : Val} (hr : IntKind.i16.wrap ver = ver) (hx : a.x0 ver (flexOf (some 3) ver) (zs ver) = some x) (hw : wf (a.m ver (flexOf (some 3) ver)).w x) (hl : (enc (a.m ver (flexOf (some 3) ver)).w x).length + 16 ≤ lim2) :
    Calls Try.prog 30 #[.int .i64 ver] w (SpP 5 w (enc (a.m ver (flexOf (some 3) ver)).w x)) :=
  NewM_calls Try.func30 bN codeN Try.results30 Try.ntmps30 (plain_of Try.func59 rfl rfl) (plain_of Try.func61 rfl rfl) (plain_of Try.func62 rfl rfl) und_int Try.underlying68 rfl (by decide) new_calls set_calls
    (fun w D b lo hi ver x hv hH hw hl hb hh hlo hD => appendTo_calls msgW Try.func62 bW codeW Try.results62 rfl hv hH hw hl hb hh (fun h => by cases h) hD) hr hx hw hl
end Go.Proofs.Ytcjlboannomanaa.Kf.MApiVersionsRequest
