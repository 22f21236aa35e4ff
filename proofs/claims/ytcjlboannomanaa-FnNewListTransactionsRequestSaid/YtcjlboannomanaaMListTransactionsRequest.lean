/- ListTransactionsRequest: the writer's schema; what a new one comes to. -/
import Derived.Test.YtcjlboannomanaaMsgV
import Derived.Test.YtcjlboannomanaaLawA
import Derived.Test.YtcjlboannomanaaDfA
import Derived.Test.YtcjlboannomanaaNewA
import Derived.Handy
import Derived.Test.YtcjlboannomanaaTagG
import Derived.Test.YtcjlboannomanaaKbT
namespace Go.Proofs.Ytcjlboannomanaa.Kf.MListTransactionsRequest
set_option linter.unusedVariables false
set_option linter.unusedSimpArgs false
set_option maxRecDepth 100000
open Go Go.RowKit

def a : A := .arrV .all 1 1 98 16 [.string ⟨#[]⟩] none (.two false 99 100) 9 (.two (.str true false) (.str false false) 96 97) (.arrV .all 2 2 131 8 [.int .i64 0] none (.two false 99 100) 2 (.one (.prim .i64) 120) (.val (.ge 1) 3 3 2 (.one (.prim .i64) 120) (.val (.ge 2) 4 4 111 (.two (.str true true) (.str false true) 112 113) (.tags 5 5 63 102 101 103 .done))))
noncomputable def bW : Code := (Try.f76.body).getD .skip
def M1 : Nat := Nat.max ((if ((some 0) : Option Int).isSome then 7 else 6) + a.k) 7
theorem codeW : Try.f76.body = some (gWrite hn 133 68 M1 (some 0) a bW) := by kernel_rfl
theorem sz98 : (Try.prog.info? 98).map (·.size) = some 1 := by kernel_rfl
theorem fa133_1 : FieldAt Try.prog 133 1 1 98 1 := fieldAt_of Try.underlying133 rfl rfl rfl sz98 (by decide)
theorem sl98 : Sl Try.prog 98 1 16 [.string ⟨#[]⟩] := sl_of Try.underlying98 (by kernel_rfl) sz98 (by decide) rfl
theorem sz9 : (Try.prog.info? 9).map (·.size) = some 1 := by kernel_rfl
theorem one9 : One Try.prog 9 := one_of Try.underlying9 rfl sz9
theorem sz131 : (Try.prog.info? 131).map (·.size) = some 1 := by kernel_rfl
theorem fa133_2 : FieldAt Try.prog 133 2 2 131 1 := fieldAt_of Try.underlying133 rfl rfl rfl sz131 (by decide)
theorem sl131 : Sl Try.prog 131 1 8 [.int .i64 0] := sl_of Try.underlying131 (by kernel_rfl) sz131 (by decide) rfl
theorem sz2 : (Try.prog.info? 2).map (·.size) = some 1 := by kernel_rfl
theorem one2 : One Try.prog 2 := one_of Try.underlying2 rfl sz2
theorem fa133_3 : FieldAt Try.prog 133 3 3 2 1 := fieldAt_of Try.underlying133 rfl rfl rfl sz2 (by decide)
theorem sz111 : (Try.prog.info? 111).map (·.size) = some 1 := by kernel_rfl
theorem fa133_4 : FieldAt Try.prog 133 4 4 111 1 := fieldAt_of Try.underlying133 rfl rfl rfl sz111 (by decide)
theorem one111 : One Try.prog 111 := one_of Try.underlying111 rfl sz111
theorem sz63 : (Try.prog.info? 63).map (·.size) = some 1 := by kernel_rfl
theorem fa133_5 : FieldAt Try.prog 133 5 5 63 1 := fieldAt_of Try.underlying133 rfl rfl rfl sz63 (by decide)
theorem sz68 : (Try.prog.info? 68).map (·.size) = some 1 := by kernel_rfl
theorem fa133_0 : FieldAt Try.prog 133 0 0 68 1 := fieldAt_of Try.underlying133 rfl rfl rfl sz68 (by decide)
theorem okW : a.ok Try.prog 5 true true 133 := ⟨rfl, ⟨rfl, len_compact, len_plain⟩, fa133_1, sl98, ⟨rfl, app_cstrC, app_strC⟩, fun flex => ⟨by cases flex <;> rfl, by cases flex <;> exact (.inl ⟨one9, rfl, fun _ _ => rfl⟩)⟩, ⟨rfl, ⟨rfl, len_compact, len_plain⟩, fa133_2, sl131, app_i64C, fun flex => ⟨by cases flex <;> rfl, by cases flex <;> exact (.inl ⟨one2, rfl, fun _ _ => rfl⟩)⟩, ⟨app_i64C, fun flex => ⟨fa133_3, (.inl ⟨one2, rfl, fun _ _ => rfl⟩)⟩, ⟨⟨rfl, app_cnstrC, app_nstrC⟩, fun flex => by cases flex <;> exact ⟨fa133_4, (.inl ⟨one111, rfl, fun _ _ => rfl⟩)⟩, ⟨rfl, fa133_5, tags_len, app_uvarint, tags_each, trivial⟩⟩⟩⟩⟩
theorem msgW : MsgW Try.prog hn true 133 68 M1 Try.f76.ntmps (some 0) a := ⟨und_int, und_u32, one_i16, fa133_0, okW, rfl, by decide, by decide⟩
theorem plain_of {F : Nat} {fn : Func} (hf : Try.prog.funcs[F]? = some fn) (hb : fn.body.isNone = false) (hn : (fn.name == "runtime.NumGoroutine") = false) : Plain Try.prog F := ⟨fn, hf, hb, hn⟩
noncomputable def bP : Code := (Try.f73.body).getD .skip
noncomputable def bS : Code := (Try.f75.body).getD .skip
noncomputable def bV : Code := (Try.f74.body).getD .skip
noncomputable def bX : Code := (Try.f37.body).getD .skip
noncomputable def bN : Code := (Try.f39.body).getD .skip
theorem codeP : Try.f73.body = some (gNP 119 133 84 bP) := by kernel_rfl
theorem codeS : Try.f75.body = some (gSV 133 68 bS) := by kernel_rfl
theorem codeV : Try.f74.body = some (gK (.int .i16 0) (.int .i16 2) bV) := by kernel_rfl
theorem codeX : Try.f37.body = some (gMx 73 74 84 68 3 bX) := by kernel_rfl
theorem codeN : Try.f39.body = some (gNewM 73 75 76 84 23 3 68 bN) := by kernel_rfl
theorem alc : Alc Try.prog 133 #[.int .i16 0, .slice none 0 0, .slice none 0 0, .int .i64 0, .pointer none, .map none] := fun o a w h => by
  obtain ⟨d, op, t, p, af, g⟩ := o
  simp only at h
  subst h
  kernel_rfl
theorem defv : DefV Try.prog 119 133 #[.int .i16 0, .slice none 0 0, .slice none 0 0, .int .i64 0, .pointer none, .map none] #[.int .i16 0, .slice none 0 0, .slice none 0 0, .int .i64 (-1), .pointer none, .map none] := ⟨plain_of Try.func119 rfl rfl, fun w b hb => by
  have c3 : w.cell? ⟨b, 3, none⟩ = some (.int .i64 0) := by simp [World.cell?, hb]
  have f3 : w.frozen? ⟨b, 3, none⟩ = false := by simp [World.frozen?, hb]
  go_enter Try.func119, Try.ntmps119
  go_wp2
  exact bodyPost_end (results_none rfl _ _ _) rfl ⟨_, rfl, (Only.refl _ _).setCell _ _, heap_setCell_same _ b 3 _ 133 (.int .i64 (-1)) (hb)⟩⟩
theorem new_calls (w : World) : Calls Try.prog 73 #[] w (NewVP #[.int .i16 0, .slice none 0 0, .slice none 0 0, .int .i64 (-1), .pointer none, .map none] 133 w) :=
  NPV_calls Try.func73 bP codeP Try.results73 Try.ntmps73 alc defv
theorem set_calls (w : World) (b : Nat) (n : Int) (hb : Blk w b 6) : Calls Try.prog 75 #[.pointer (some ⟨b, 0, none⟩), .int .i16 n] w fun e w' => e = .returned (.tuple #[]) ∧ Only (· = b) w w' ∧ Upd b 0 1 w w' ∧ w'.cell? ⟨b, 0, none⟩ = some (.int .i16 n) :=
  SV_calls Try.func75 bS codeS Try.results75 Try.ntmps75 fa133_0 hb (by decide)
theorem max_calls (w : World) : Calls Try.prog 37 #[] w fun e w' => e = .returned (.int .i64 2) ∧ Only (fun _ => False) w w' :=
  Mx_calls Try.func37 bX codeX Try.results37 Try.ntmps37 und_int Try.underlying68 (plain_of Try.func73 rfl rfl) (plain_of Try.func74 rfl rfl) ((new_calls w).mono fun e w' h => ⟨_, h.1, h.2.1⟩) fun v w' => K_calls Try.func74 bV codeV Try.results74 Try.ntmps74
def zs (ver : Int) : List Value := .int .i16 ver :: (#[.int .i16 0, .slice none 0 0, .slice none 0 0, .int .i64 (-1), .pointer none, .map none] : Array Value).toList.tail
theorem new_msg {w : World} {ver : Int} {x : Val} (hr : IntKind.i16.wrap ver = ver) (hx : a.x0 ver (flexOf (some 0) ver) (zs ver) = some x) (hw : wf (a.m ver (flexOf (some 0) ver)).w x) (hl : (enc (a.m ver (flexOf (some 0) ver)).w x).length + 16 ≤ lim2) :
    Calls Try.prog 39 #[.int .i64 ver] w (SpP 5 w (enc (a.m ver (flexOf (some 0) ver)).w x)) :=
  NewM_calls Try.func39 bN codeN Try.results39 Try.ntmps39 (plain_of Try.func73 rfl rfl) (plain_of Try.func75 rfl rfl) (plain_of Try.func76 rfl rfl) und_int Try.underlying68 rfl (by decide) new_calls set_calls
    (fun w D b lo hi ver x hv hH hw hl hb hh hlo hD => appendTo_calls msgW Try.func76 bW codeW Try.results76 rfl hv hH hw hl hb hh (fun h => by cases h) hD) hr hx hw hl
end Go.Proofs.Ytcjlboannomanaa.Kf.MListTransactionsRequest
