/- AlterClientQuotasResponse: the writer's schema; what a new one comes to. -/
import Derived.Test.YtcjlboannomanaaMsgV
import Derived.Test.YtcjlboannomanaaLawA
import Derived.Test.YtcjlboannomanaaDfA
import Derived.Test.YtcjlboannomanaaNewA
import Derived.Handy
import Derived.Test.YtcjlboannomanaaTagG
import Derived.Test.YtcjlboannomanaaKbT
namespace Go.Proofs.Ytcjlboannomanaa.Kf.MAlterClientQuotasResponse
set_option linter.unusedVariables false
set_option linter.unusedSimpArgs false
set_option maxRecDepth 100000
open Go Go.RowKit

def a : A := .val .all 1 1 21 (.one (.prim .i32) 114) (.arrS .all 2 2 135 48 [.int .i16 0, .pointer none, .slice none 0 0, .map none] none (.two false 99 100) 141 (.val .all 0 0 68 (.one (.prim .i16) 117) (.val .all 1 1 111 (.two (.str true true) (.str false true) 112 113) (.arrS .all 2 2 139 32 [.string ⟨#[]⟩, .pointer none, .map none] none (.two false 99 100) 144 (.val .all 0 0 9 (.two (.str true false) (.str false false) 96 97) (.val .all 1 1 111 (.two (.str true true) (.str false true) 112 113) (.tags 2 2 63 102 101 103 .done))) (.tags 3 3 63 102 101 103 .done)))) (.tags 3 3 63 102 101 103 .done))
noncomputable def bW : Code := (Try.f81.body).getD .skip
def M1 : Nat := Nat.max ((if ((some 1) : Option Int).isSome then 7 else 6) + a.k) 7
theorem codeW : Try.f81.body = some (gWrite hn 137 68 M1 (some 1) a bW) := by kernel_rfl
theorem sz21 : (Try.prog.info? 21).map (·.size) = some 1 := by kernel_rfl
theorem fa137_1 : FieldAt Try.prog 137 1 1 21 1 := fieldAt_of Try.underlying137 rfl rfl rfl sz21 (by decide)
theorem one21 : One Try.prog 21 := one_of Try.underlying21 rfl sz21
theorem sz135 : (Try.prog.info? 135).map (·.size) = some 1 := by kernel_rfl
theorem fa137_2 : FieldAt Try.prog 137 2 2 135 1 := fieldAt_of Try.underlying137 rfl rfl rfl sz135 (by decide)
theorem sl135 : Sl Try.prog 135 4 48 [.int .i16 0, .pointer none, .slice none 0 0, .map none] := sl_of Try.underlying135 (by kernel_rfl) sz135 (by decide) rfl
theorem sz68 : (Try.prog.info? 68).map (·.size) = some 1 := by kernel_rfl
theorem fa141_0 : FieldAt Try.prog 141 0 0 68 1 := fieldAt_of Try.underlying141 rfl rfl rfl sz68 (by decide)
theorem one68 : One Try.prog 68 := one_of Try.underlying68 rfl sz68
theorem sz111 : (Try.prog.info? 111).map (·.size) = some 1 := by kernel_rfl
theorem fa141_1 : FieldAt Try.prog 141 1 1 111 1 := fieldAt_of Try.underlying141 rfl rfl rfl sz111 (by decide)
theorem one111 : One Try.prog 111 := one_of Try.underlying111 rfl sz111
theorem sz139 : (Try.prog.info? 139).map (·.size) = some 1 := by kernel_rfl
theorem fa141_2 : FieldAt Try.prog 141 2 2 139 1 := fieldAt_of Try.underlying141 rfl rfl rfl sz139 (by decide)
theorem sl139 : Sl Try.prog 139 3 32 [.string ⟨#[]⟩, .pointer none, .map none] := sl_of Try.underlying139 (by kernel_rfl) sz139 (by decide) rfl
theorem sz9 : (Try.prog.info? 9).map (·.size) = some 1 := by kernel_rfl
theorem fa144_0 : FieldAt Try.prog 144 0 0 9 1 := fieldAt_of Try.underlying144 rfl rfl rfl sz9 (by decide)
theorem one9 : One Try.prog 9 := one_of Try.underlying9 rfl sz9
theorem fa144_1 : FieldAt Try.prog 144 1 1 111 1 := fieldAt_of Try.underlying144 rfl rfl rfl sz111 (by decide)
theorem sz63 : (Try.prog.info? 63).map (·.size) = some 1 := by kernel_rfl
theorem fa144_2 : FieldAt Try.prog 144 2 2 63 1 := fieldAt_of Try.underlying144 rfl rfl rfl sz63 (by decide)
theorem fa141_3 : FieldAt Try.prog 141 3 3 63 1 := fieldAt_of Try.underlying141 rfl rfl rfl sz63 (by decide)
theorem fa137_3 : FieldAt Try.prog 137 3 3 63 1 := fieldAt_of Try.underlying137 rfl rfl rfl sz63 (by decide)
theorem fa137_0 : FieldAt Try.prog 137 0 0 68 1 := fieldAt_of Try.underlying137 rfl rfl rfl sz68 (by decide)
theorem okW : a.ok Try.prog 5 true true 137 := ⟨app_i32C, fun flex => ⟨fa137_1, (.inl ⟨one21, rfl, fun _ _ => rfl⟩)⟩, ⟨rfl, ⟨rfl, len_compact, len_plain⟩, fa137_2, sl135, ⟨app_i16C, fun flex => ⟨fa141_0, (.inl ⟨one68, rfl, fun _ _ => rfl⟩)⟩, ⟨⟨rfl, app_cnstrC, app_nstrC⟩, fun flex => by cases flex <;> exact ⟨fa141_1, (.inl ⟨one111, rfl, fun _ _ => rfl⟩)⟩, ⟨rfl, ⟨rfl, len_compact, len_plain⟩, fa141_2, sl139, ⟨⟨rfl, app_cstrC, app_strC⟩, fun flex => by cases flex <;> exact ⟨fa144_0, (.inl ⟨one9, rfl, fun _ _ => rfl⟩)⟩, ⟨⟨rfl, app_cnstrC, app_nstrC⟩, fun flex => by cases flex <;> exact ⟨fa144_1, (.inl ⟨one111, rfl, fun _ _ => rfl⟩)⟩, ⟨rfl, fa144_2, tags_len, app_uvarint, tags_each, trivial⟩⟩⟩, ⟨rfl, fa141_3, tags_len, app_uvarint, tags_each, trivial⟩⟩⟩⟩, ⟨rfl, fa137_3, tags_len, app_uvarint, tags_each, trivial⟩⟩⟩
theorem msgW : MsgW Try.prog hn true 137 68 M1 Try.f81.ntmps (some 1) a := ⟨und_int, und_u32, one_i16, fa137_0, okW, rfl, by decide, by decide⟩
theorem plain_of {F : Nat} {fn : Func} (hf : Try.prog.funcs[F]? = some fn) (hb : fn.body.isNone = false) (hn : (fn.name == "runtime.NumGoroutine") = false) : Plain Try.prog F := ⟨fn, hf, hb, hn⟩
noncomputable def bP : Code := (Try.f77.body).getD .skip
noncomputable def bS : Code := (Try.f80.body).getD .skip
noncomputable def bV : Code := (Try.f78.body).getD .skip
noncomputable def bX : Code := (Try.f40.body).getD .skip
noncomputable def bN : Code := (Try.f42.body).getD .skip
theorem codeP : Try.f77.body = some (gNP 121 137 86 bP) := by kernel_rfl
theorem codeS : Try.f80.body = some (gSV 137 68 bS) := by kernel_rfl
theorem codeV : Try.f78.body = some (gK (.int .i16 0) (.int .i16 1) bV) := by kernel_rfl
theorem codeX : Try.f40.body = some (gMx 77 78 86 68 3 bX) := by kernel_rfl
theorem codeN : Try.f42.body = some (gNewM 77 80 81 86 23 3 68 bN) := by kernel_rfl
theorem alc : Alc Try.prog 137 #[.int .i16 0, .int .i32 0, .slice none 0 0, .map none] := fun o a w h => by
  obtain ⟨d, op, t, p, af, g⟩ := o
  simp only at h
  subst h
  kernel_rfl
theorem new_calls (w : World) : Calls Try.prog 77 #[] w (NewVP #[.int .i16 0, .int .i32 0, .slice none 0 0, .map none] 137 w) :=
  NPV_calls Try.func77 bP codeP Try.results77 Try.ntmps77 alc (defV_skip Try.func121 rfl rfl rfl)
theorem set_calls (w : World) (b : Nat) (n : Int) (hb : Blk w b 4) : Calls Try.prog 80 #[.pointer (some ⟨b, 0, none⟩), .int .i16 n] w fun e w' => e = .returned (.tuple #[]) ∧ Only (· = b) w w' ∧ Upd b 0 1 w w' ∧ w'.cell? ⟨b, 0, none⟩ = some (.int .i16 n) :=
  SV_calls Try.func80 bS codeS Try.results80 Try.ntmps80 fa137_0 hb (by decide)
theorem max_calls (w : World) : Calls Try.prog 40 #[] w fun e w' => e = .returned (.int .i64 1) ∧ Only (fun _ => False) w w' :=
  Mx_calls Try.func40 bX codeX Try.results40 Try.ntmps40 und_int Try.underlying68 (plain_of Try.func77 rfl rfl) (plain_of Try.func78 rfl rfl) ((new_calls w).mono fun e w' h => ⟨_, h.1, h.2.1⟩) fun v w' => K_calls Try.func78 bV codeV Try.results78 Try.ntmps78
def zs (ver : Int) : List Value := .int .i16 ver :: (#[.int .i16 0, .int .i32 0, .slice none 0 0, .map none] : Array Value).toList.tail
theorem new_msg {w : World} {ver : Int} {x : Val} (hr : IntKind.i16.wrap ver = ver) (hx : a.x0 ver (flexOf (some 1) ver) (zs ver) = some x) (hw : wf (a.m ver (flexOf (some 1) ver)).w x) (hl : (enc (a.m ver (flexOf (some 1) ver)).w x).length + 16 ≤ lim2) :
    Calls Try.prog 42 #[.int .i64 ver] w (SpP 5 w (enc (a.m ver (flexOf (some 1) ver)).w x)) :=
  NewM_calls Try.func42 bN codeN Try.results42 Try.ntmps42 (plain_of Try.func77 rfl rfl) (plain_of Try.func80 rfl rfl) (plain_of Try.func81 rfl rfl) und_int Try.underlying68 rfl (by decide) new_calls set_calls
    (fun w D b lo hi ver x hv hH hw hl hb hh hlo hD => appendTo_calls msgW Try.func81 bW codeW Try.results81 rfl hv hH hw hl hb hh (fun h => by cases h) hD) hr hx hw hl
end Go.Proofs.Ytcjlboannomanaa.Kf.MAlterClientQuotasResponse
