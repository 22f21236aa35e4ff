/- ElectLeadersResponse: the writer's schema; what a new one comes to. -/
import Derived.Test.YtcjlboannomanaaMsgV
import Derived.Test.YtcjlboannomanaaLawA
import Derived.Test.YtcjlboannomanaaDfA
import Derived.Test.YtcjlboannomanaaNewA
import Derived.Handy
import Derived.Test.YtcjlboannomanaaTagG
import Derived.Test.YtcjlboannomanaaKbT
namespace Go.Proofs.Ytcjlboannomanaa.Kf.MElectLeadersResponse
set_option linter.unusedVariables false
set_option linter.unusedSimpArgs false
set_option maxRecDepth 100000
open Go Go.RowKit

def a : A := .val .all 1 1 21 (.one (.prim .i32) 114) (.val (.ge 1) 2 2 68 (.one (.prim .i16) 117) (.arrS .all 3 3 145 48 [.string ⟨#[]⟩, .slice none 0 0, .map none] none (.two false 99 100) 151 (.val .all 0 0 9 (.two (.str true false) (.str false false) 96 97) (.arrS .all 1 1 149 24 [.int .i32 0, .int .i16 0, .pointer none, .map none] none (.two false 99 100) 154 (.val .all 0 0 21 (.one (.prim .i32) 114) (.val .all 1 1 68 (.one (.prim .i16) 117) (.val .all 2 2 111 (.two (.str true true) (.str false true) 112 113) (.tags 3 3 63 102 101 103 .done)))) (.tags 2 2 63 102 101 103 .done))) (.tags 4 4 63 102 101 103 .done)))
noncomputable def bW : Code := (Try.f86.body).getD .skip
def M1 : Nat := Nat.max ((if ((some 2) : Option Int).isSome then 7 else 6) + a.k) 7
theorem codeW : Try.f86.body = some (gWrite hn 147 68 M1 (some 2) a bW) := by kernel_rfl
theorem sz21 : (Try.prog.info? 21).map (·.size) = some 1 := by kernel_rfl
theorem fa147_1 : FieldAt Try.prog 147 1 1 21 1 := fieldAt_of Try.underlying147 rfl rfl rfl sz21 (by decide)
theorem one21 : One Try.prog 21 := one_of Try.underlying21 rfl sz21
theorem sz68 : (Try.prog.info? 68).map (·.size) = some 1 := by kernel_rfl
theorem fa147_2 : FieldAt Try.prog 147 2 2 68 1 := fieldAt_of Try.underlying147 rfl rfl rfl sz68 (by decide)
theorem one68 : One Try.prog 68 := one_of Try.underlying68 rfl sz68
theorem sz145 : (Try.prog.info? 145).map (·.size) = some 1 := by kernel_rfl
theorem fa147_3 : FieldAt Try.prog 147 3 3 145 1 := fieldAt_of Try.underlying147 rfl rfl rfl sz145 (by decide)
theorem sl145 : Sl Try.prog 145 3 48 [.string ⟨#[]⟩, .slice none 0 0, .map none] := sl_of Try.underlying145 (by kernel_rfl) sz145 (by decide) rfl
theorem sz9 : (Try.prog.info? 9).map (·.size) = some 1 := by kernel_rfl
theorem fa151_0 : FieldAt Try.prog 151 0 0 9 1 := fieldAt_of Try.underlying151 rfl rfl rfl sz9 (by decide)
theorem one9 : One Try.prog 9 := one_of Try.underlying9 rfl sz9
theorem sz149 : (Try.prog.info? 149).map (·.size) = some 1 := by kernel_rfl
theorem fa151_1 : FieldAt Try.prog 151 1 1 149 1 := fieldAt_of Try.underlying151 rfl rfl rfl sz149 (by decide)
theorem sl149 : Sl Try.prog 149 4 24 [.int .i32 0, .int .i16 0, .pointer none, .map none] := sl_of Try.underlying149 (by kernel_rfl) sz149 (by decide) rfl
theorem fa154_0 : FieldAt Try.prog 154 0 0 21 1 := fieldAt_of Try.underlying154 rfl rfl rfl sz21 (by decide)
theorem fa154_1 : FieldAt Try.prog 154 1 1 68 1 := fieldAt_of Try.underlying154 rfl rfl rfl sz68 (by decide)
theorem sz111 : (Try.prog.info? 111).map (·.size) = some 1 := by kernel_rfl
theorem fa154_2 : FieldAt Try.prog 154 2 2 111 1 := fieldAt_of Try.underlying154 rfl rfl rfl sz111 (by decide)
theorem one111 : One Try.prog 111 := one_of Try.underlying111 rfl sz111
theorem sz63 : (Try.prog.info? 63).map (·.size) = some 1 := by kernel_rfl
theorem fa154_3 : FieldAt Try.prog 154 3 3 63 1 := fieldAt_of Try.underlying154 rfl rfl rfl sz63 (by decide)
theorem fa151_2 : FieldAt Try.prog 151 2 2 63 1 := fieldAt_of Try.underlying151 rfl rfl rfl sz63 (by decide)
theorem fa147_4 : FieldAt Try.prog 147 4 4 63 1 := fieldAt_of Try.underlying147 rfl rfl rfl sz63 (by decide)
theorem fa147_0 : FieldAt Try.prog 147 0 0 68 1 := fieldAt_of Try.underlying147 rfl rfl rfl sz68 (by decide)
theorem okW : a.ok Try.prog 5 true true 147 := ⟨app_i32C, fun flex => ⟨fa147_1, (.inl ⟨one21, rfl, fun _ _ => rfl⟩)⟩, ⟨app_i16C, fun flex => ⟨fa147_2, (.inl ⟨one68, rfl, fun _ _ => rfl⟩)⟩, ⟨rfl, ⟨rfl, len_compact, len_plain⟩, fa147_3, sl145, ⟨⟨rfl, app_cstrC, app_strC⟩, fun flex => by cases flex <;> exact ⟨fa151_0, (.inl ⟨one9, rfl, fun _ _ => rfl⟩)⟩, ⟨rfl, ⟨rfl, len_compact, len_plain⟩, fa151_1, sl149, ⟨app_i32C, fun flex => ⟨fa154_0, (.inl ⟨one21, rfl, fun _ _ => rfl⟩)⟩, ⟨app_i16C, fun flex => ⟨fa154_1, (.inl ⟨one68, rfl, fun _ _ => rfl⟩)⟩, ⟨⟨rfl, app_cnstrC, app_nstrC⟩, fun flex => by cases flex <;> exact ⟨fa154_2, (.inl ⟨one111, rfl, fun _ _ => rfl⟩)⟩, ⟨rfl, fa154_3, tags_len, app_uvarint, tags_each, trivial⟩⟩⟩⟩, ⟨rfl, fa151_2, tags_len, app_uvarint, tags_each, trivial⟩⟩⟩, ⟨rfl, fa147_4, tags_len, app_uvarint, tags_each, trivial⟩⟩⟩⟩
theorem msgW : MsgW Try.prog hn true 147 68 M1 Try.f86.ntmps (some 2) a := ⟨und_int, und_u32, one_i16, fa147_0, okW, rfl, by decide, by decide⟩
theorem plain_of {F : Nat} {fn : Func} (hf : Try.prog.funcs[F]? = some fn) (hb : fn.body.isNone = false) (hn : (fn.name == "runtime.NumGoroutine") = false) : Plain Try.prog F := ⟨fn, hf, hb, hn⟩
noncomputable def bP : Code := (Try.f82.body).getD .skip
noncomputable def bS : Code := (Try.f85.body).getD .skip
noncomputable def bV : Code := (Try.f83.body).getD .skip
noncomputable def bX : Code := (Try.f43.body).getD .skip
noncomputable def bN : Code := (Try.f45.body).getD .skip
theorem codeP : Try.f82.body = some (gNP 123 147 88 bP) := by kernel_rfl
theorem codeS : Try.f85.body = some (gSV 147 68 bS) := by kernel_rfl
theorem codeV : Try.f83.body = some (gK (.int .i16 0) (.int .i16 2) bV) := by kernel_rfl
theorem codeX : Try.f43.body = some (gMx 82 83 88 68 3 bX) := by kernel_rfl
theorem codeN : Try.f45.body = some (gNewM 82 85 86 88 23 3 68 bN) := by kernel_rfl
theorem alc : Alc Try.prog 147 #[.int .i16 0, .int .i32 0, .int .i16 0, .slice none 0 0, .map none] := fun o a w h => by
  obtain ⟨d, op, t, p, af, g⟩ := o
  simp only at h
  subst h
  kernel_rfl
theorem new_calls (w : World) : Calls Try.prog 82 #[] w (NewVP #[.int .i16 0, .int .i32 0, .int .i16 0, .slice none 0 0, .map none] 147 w) :=
  NPV_calls Try.func82 bP codeP Try.results82 Try.ntmps82 alc (defV_skip Try.func123 rfl rfl rfl)
theorem set_calls (w : World) (b : Nat) (n : Int) (hb : Blk w b 5) : Calls Try.prog 85 #[.pointer (some ⟨b, 0, none⟩), .int .i16 n] w fun e w' => e = .returned (.tuple #[]) ∧ Only (· = b) w w' ∧ Upd b 0 1 w w' ∧ w'.cell? ⟨b, 0, none⟩ = some (.int .i16 n) :=
  SV_calls Try.func85 bS codeS Try.results85 Try.ntmps85 fa147_0 hb (by decide)
theorem max_calls (w : World) : Calls Try.prog 43 #[] w fun e w' => e = .returned (.int .i64 2) ∧ Only (fun _ => False) w w' :=
  Mx_calls Try.func43 bX codeX Try.results43 Try.ntmps43 und_int Try.underlying68 (plain_of Try.func82 rfl rfl) (plain_of Try.func83 rfl rfl) ((new_calls w).mono fun e w' h => ⟨_, h.1, h.2.1⟩) fun v w' => K_calls Try.func83 bV codeV Try.results83 Try.ntmps83
def zs (ver : Int) : List Value := .int .i16 ver :: (#[.int .i16 0, .int .i32 0, .int .i16 0, .slice none 0 0, .map none] : Array Value).toList.tail
theorem new_msg {w : World} {ver : Int} {x : Val} (hr : IntKind.i16.wrap ver = ver) (hx : a.x0 ver (flexOf (some 2) ver) (zs ver) = some x) (hw : wf (a.m ver (flexOf (some 2) ver)).w x) (hl : (enc (a.m ver (flexOf (some 2) ver)).w x).length + 16 ≤ lim2) :
    Calls Try.prog 45 #[.int .i64 ver] w (SpP 5 w (enc (a.m ver (flexOf (some 2) ver)).w x)) :=
  NewM_calls Try.func45 bN codeN Try.results45 Try.ntmps45 (plain_of Try.func82 rfl rfl) (plain_of Try.func85 rfl rfl) (plain_of Try.func86 rfl rfl) und_int Try.underlying68 rfl (by decide) new_calls set_calls
    (fun w D b lo hi ver x hv hH hw hl hb hh hlo hD => appendTo_calls msgW Try.func86 bW codeW Try.results86 rfl hv hH hw hl hb hh (fun h => by cases h) hD) hr hx hw hl
end Go.Proofs.Ytcjlboannomanaa.Kf.MElectLeadersResponse
