/- UpdateFeaturesRequest: the writer's schema; what a new one comes to. -/
import Derived.Test.YtcjlboannomanaaMsgV
import Derived.Test.YtcjlboannomanaaLawA
import Derived.Test.YtcjlboannomanaaDfA
import Derived.Test.YtcjlboannomanaaNewA
import Derived.Handy
import Derived.Test.YtcjlboannomanaaTagG
import Derived.Test.YtcjlboannomanaaKbT
namespace Go.Proofs.Ytcjlboannomanaa.Kf.MUpdateFeaturesRequest
set_option linter.unusedVariables false
set_option linter.unusedSimpArgs false
set_option maxRecDepth 100000
open Go Go.RowKit

def a : A := .val .all 1 1 21 (.one (.prim .i32) 114) (.arrS .all 2 2 123 32 [.string ⟨#[]⟩, .int .i16 0, .bool false, .int .i8 0, .map none] none (.two false 99 100) 128 (.val .all 0 0 9 (.two (.str true false) (.str false false) 96 97) (.val .all 1 1 68 (.one (.prim .i16) 117) (.val (.rng 0 0) 2 2 4 (.one (.prim .bool) 118) (.val (.ge 1) 3 3 97 (.one (.prim .i8) 98) (.tags 4 4 63 102 101 103 .done))))) (.val (.ge 1) 3 3 4 (.one (.prim .bool) 118) (.tags 4 4 63 102 101 103 .done)))
noncomputable def bW : Code := (Try.f72.body).getD .skip
def M1 : Nat := Nat.max ((if ((some 0) : Option Int).isSome then 7 else 6) + a.k) 7
theorem codeW : Try.f72.body = some (gWrite hn 125 68 M1 (some 0) a bW) := by kernel_rfl
theorem sz21 : (Try.prog.info? 21).map (·.size) = some 1 := by kernel_rfl
theorem fa125_1 : FieldAt Try.prog 125 1 1 21 1 := fieldAt_of Try.underlying125 rfl rfl rfl sz21 (by decide)
theorem one21 : One Try.prog 21 := one_of Try.underlying21 rfl sz21
theorem sz123 : (Try.prog.info? 123).map (·.size) = some 1 := by kernel_rfl
theorem fa125_2 : FieldAt Try.prog 125 2 2 123 1 := fieldAt_of Try.underlying125 rfl rfl rfl sz123 (by decide)
theorem sl123 : Sl Try.prog 123 5 32 [.string ⟨#[]⟩, .int .i16 0, .bool false, .int .i8 0, .map none] := sl_of Try.underlying123 (by kernel_rfl) sz123 (by decide) rfl
theorem sz9 : (Try.prog.info? 9).map (·.size) = some 1 := by kernel_rfl
theorem fa128_0 : FieldAt Try.prog 128 0 0 9 1 := fieldAt_of Try.underlying128 rfl rfl rfl sz9 (by decide)
theorem one9 : One Try.prog 9 := one_of Try.underlying9 rfl sz9
theorem sz68 : (Try.prog.info? 68).map (·.size) = some 1 := by kernel_rfl
theorem fa128_1 : FieldAt Try.prog 128 1 1 68 1 := fieldAt_of Try.underlying128 rfl rfl rfl sz68 (by decide)
theorem one68 : One Try.prog 68 := one_of Try.underlying68 rfl sz68
theorem sz4 : (Try.prog.info? 4).map (·.size) = some 1 := by kernel_rfl
theorem fa128_2 : FieldAt Try.prog 128 2 2 4 1 := fieldAt_of Try.underlying128 rfl rfl rfl sz4 (by decide)
theorem one4 : One Try.prog 4 := one_of Try.underlying4 rfl sz4
theorem sz97 : (Try.prog.info? 97).map (·.size) = some 1 := by kernel_rfl
theorem fa128_3 : FieldAt Try.prog 128 3 3 97 1 := fieldAt_of Try.underlying128 rfl rfl rfl sz97 (by decide)
theorem one97 : One Try.prog 97 := one_of Try.underlying97 rfl sz97
theorem sz63 : (Try.prog.info? 63).map (·.size) = some 1 := by kernel_rfl
theorem fa128_4 : FieldAt Try.prog 128 4 4 63 1 := fieldAt_of Try.underlying128 rfl rfl rfl sz63 (by decide)
theorem fa125_3 : FieldAt Try.prog 125 3 3 4 1 := fieldAt_of Try.underlying125 rfl rfl rfl sz4 (by decide)
theorem fa125_4 : FieldAt Try.prog 125 4 4 63 1 := fieldAt_of Try.underlying125 rfl rfl rfl sz63 (by decide)
theorem fa125_0 : FieldAt Try.prog 125 0 0 68 1 := fieldAt_of Try.underlying125 rfl rfl rfl sz68 (by decide)
theorem okW : a.ok Try.prog 5 true true 125 := ⟨app_i32C, fun flex => ⟨fa125_1, (.inl ⟨one21, rfl, fun _ _ => rfl⟩)⟩, ⟨rfl, ⟨rfl, len_compact, len_plain⟩, fa125_2, sl123, ⟨⟨rfl, app_cstrC, app_strC⟩, fun flex => by cases flex <;> exact ⟨fa128_0, (.inl ⟨one9, rfl, fun _ _ => rfl⟩)⟩, ⟨app_i16C, fun flex => ⟨fa128_1, (.inl ⟨one68, rfl, fun _ _ => rfl⟩)⟩, ⟨app_boolC, fun flex => ⟨fa128_2, (.inl ⟨one4, rfl, fun _ _ => rfl⟩)⟩, ⟨app_i8C, fun flex => ⟨fa128_3, (.inl ⟨one97, rfl, fun _ _ => rfl⟩)⟩, ⟨rfl, fa128_4, tags_len, app_uvarint, tags_each, trivial⟩⟩⟩⟩⟩, ⟨app_boolC, fun flex => ⟨fa125_3, (.inl ⟨one4, rfl, fun _ _ => rfl⟩)⟩, ⟨rfl, fa125_4, tags_len, app_uvarint, tags_each, trivial⟩⟩⟩⟩
theorem msgW : MsgW Try.prog hn true 125 68 M1 Try.f72.ntmps (some 0) a := ⟨und_int, und_u32, one_i16, fa125_0, okW, rfl, by decide, by decide⟩
theorem plain_of {F : Nat} {fn : Func} (hf : Try.prog.funcs[F]? = some fn) (hb : fn.body.isNone = false) (hn : (fn.name == "runtime.NumGoroutine") = false) : Plain Try.prog F := ⟨fn, hf, hb, hn⟩
noncomputable def bP : Code := (Try.f68.body).getD .skip
noncomputable def bS : Code := (Try.f71.body).getD .skip
noncomputable def bV : Code := (Try.f69.body).getD .skip
noncomputable def bX : Code := (Try.f34.body).getD .skip
noncomputable def bN : Code := (Try.f36.body).getD .skip
theorem codeP : Try.f68.body = some (gNP 116 125 82 bP) := by kernel_rfl
theorem codeS : Try.f71.body = some (gSV 125 68 bS) := by kernel_rfl
theorem codeV : Try.f69.body = some (gK (.int .i16 0) (.int .i16 2) bV) := by kernel_rfl
theorem codeX : Try.f34.body = some (gMx 68 69 82 68 3 bX) := by kernel_rfl
theorem codeN : Try.f36.body = some (gNewM 68 71 72 82 23 3 68 bN) := by kernel_rfl
theorem alc : Alc Try.prog 125 #[.int .i16 0, .int .i32 0, .slice none 0 0, .bool false, .map none] := fun o a w h => by
  obtain ⟨d, op, t, p, af, g⟩ := o
  simp only at h
  subst h
  kernel_rfl
theorem defv : DefV Try.prog 116 125 #[.int .i16 0, .int .i32 0, .slice none 0 0, .bool false, .map none] #[.int .i16 0, .int .i32 (60000), .slice none 0 0, .bool false, .map none] := ⟨plain_of Try.func116 rfl rfl, fun w b hb => by
  have c1 : w.cell? ⟨b, 1, none⟩ = some (.int .i32 0) := by simp [World.cell?, hb]
  have f1 : w.frozen? ⟨b, 1, none⟩ = false := by simp [World.frozen?, hb]
  go_enter Try.func116, Try.ntmps116
  go_wp2
  exact bodyPost_end (results_none rfl _ _ _) rfl ⟨_, rfl, (Only.refl _ _).setCell _ _, heap_setCell_same _ b 1 _ 125 (.int .i32 (60000)) (hb)⟩⟩
theorem new_calls (w : World) : Calls Try.prog 68 #[] w (NewVP #[.int .i16 0, .int .i32 (60000), .slice none 0 0, .bool false, .map none] 125 w) :=
  NPV_calls Try.func68 bP codeP Try.results68 Try.ntmps68 alc defv
theorem set_calls (w : World) (b : Nat) (n : Int) (hb : Blk w b 5) : Calls Try.prog 71 #[.pointer (some ⟨b, 0, none⟩), .int .i16 n] w fun e w' => e = .returned (.tuple #[]) ∧ Only (· = b) w w' ∧ Upd b 0 1 w w' ∧ w'.cell? ⟨b, 0, none⟩ = some (.int .i16 n) :=
  SV_calls Try.func71 bS codeS Try.results71 Try.ntmps71 fa125_0 hb (by decide)
theorem max_calls (w : World) : Calls Try.prog 34 #[] w fun e w' => e = .returned (.int .i64 2) ∧ Only (fun _ => False) w w' :=
  Mx_calls Try.func34 bX codeX Try.results34 Try.ntmps34 und_int Try.underlying68 (plain_of Try.func68 rfl rfl) (plain_of Try.func69 rfl rfl) ((new_calls w).mono fun e w' h => ⟨_, h.1, h.2.1⟩) fun v w' => K_calls Try.func69 bV codeV Try.results69 Try.ntmps69
def zs (ver : Int) : List Value := .int .i16 ver :: (#[.int .i16 0, .int .i32 (60000), .slice none 0 0, .bool false, .map none] : Array Value).toList.tail
theorem new_msg {w : World} {ver : Int} {x : Val} (hr : IntKind.i16.wrap ver = ver) (hx : a.x0 ver (flexOf (some 0) ver) (zs ver) = some x) (hw : wf (a.m ver (flexOf (some 0) ver)).w x) (hl : (enc (a.m ver (flexOf (some 0) ver)).w x).length + 16 ≤ lim2) :
    Calls Try.prog 36 #[.int .i64 ver] w (SpP 5 w (enc (a.m ver (flexOf (some 0) ver)).w x)) :=
  NewM_calls Try.func36 bN codeN Try.results36 Try.ntmps36 (plain_of Try.func68 rfl rfl) (plain_of Try.func71 rfl rfl) (plain_of Try.func72 rfl rfl) und_int Try.underlying68 rfl (by decide) new_calls set_calls
    (fun w D b lo hi ver x hv hH hw hl hb hh hlo hD => appendTo_calls msgW Try.func72 bW codeW Try.results72 rfl hv hH hw hl hb hh (fun h => by cases h) hD) hr hx hw hl
end Go.Proofs.Ytcjlboannomanaa.Kf.MUpdateFeaturesRequest
