/- JoinGroupResponse: the writer's schema; what a new one comes to. -/
import Derived.Test.YtffgggfendppiaaMsgV
import Derived.Test.YtffgggfendppiaaLawA
import Derived.Test.YtffgggfendppiaaDfA
import Derived.Test.YtffgggfendppiaaNewA
import Derived.Handy
import Derived.Test.YtffgggfendppiaaTagG
import Derived.Test.YtffgggfendppiaaKbT
namespace Go.Proofs.Ytffgggfendppiaa.Kf.MJoinGroupResponse
set_option linter.unusedVariables false
set_option linter.unusedSimpArgs false
set_option maxRecDepth 100000
open Go Go.RowKit

def a : A := .val (.ge 2) 1 1 21 (.one (.prim .i32) 37) (.val .all 2 2 38 (.one (.prim .i16) 38) (.val .all 3 3 21 (.one (.prim .i32) 37) (.val (.ge 7) 4 4 52 (.two (.str true true) (.str false true) 39 40) (.vv .all 5 5 52 9 (7) 44 45 39 40 (.val .all 6 6 9 (.two (.str true false) (.str false false) 44 45) (.val (.ge 9) 7 7 4 (.one (.prim .bool) 61) (.val .all 8 8 9 (.two (.str true false) (.str false false) 44 45) (.arrS .all 9 9 101 56 [.string ⟨#[]⟩, .pointer none, .slice none 0 0, .map none] none (.two false 41 42) 107 (.val .all 0 0 9 (.two (.str true false) (.str false false) 44 45) (.val (.ge 5) 1 1 52 (.two (.str true true) (.str false true) 39 40) (.val .all 2 2 28 (.two (.byt true false) (.byt false false) 62 63) (.tags 3 3 56 47 46 48 .done)))) (.tags 10 10 56 47 46 48 .done)))))))))
noncomputable def bW : Code := (Try.f34.body).getD .skip
def M1 : Nat := Nat.max ((if ((some 6) : Option Int).isSome then 7 else 6) + a.k) 7
theorem codeW : Try.f34.body = some (gWrite hn 103 38 M1 (some 6) a bW) := by kernel_rfl
theorem sz21 : (Try.prog.info? 21).map (·.size) = some 1 := by kernel_rfl
theorem fa103_1 : FieldAt Try.prog 103 1 1 21 1 := fieldAt_of Try.underlying103 rfl rfl rfl sz21 (by decide)
theorem one21 : One Try.prog 21 := one_of Try.underlying21 rfl sz21
theorem sz38 : (Try.prog.info? 38).map (·.size) = some 1 := by kernel_rfl
theorem fa103_2 : FieldAt Try.prog 103 2 2 38 1 := fieldAt_of Try.underlying103 rfl rfl rfl sz38 (by decide)
theorem one38 : One Try.prog 38 := one_of Try.underlying38 rfl sz38
theorem fa103_3 : FieldAt Try.prog 103 3 3 21 1 := fieldAt_of Try.underlying103 rfl rfl rfl sz21 (by decide)
theorem sz52 : (Try.prog.info? 52).map (·.size) = some 1 := by kernel_rfl
theorem fa103_4 : FieldAt Try.prog 103 4 4 52 1 := fieldAt_of Try.underlying103 rfl rfl rfl sz52 (by decide)
theorem one52 : One Try.prog 52 := one_of Try.underlying52 rfl sz52
theorem fa103_5 : FieldAt Try.prog 103 5 5 52 1 := fieldAt_of Try.underlying103 rfl rfl rfl sz52 (by decide)
theorem sz9 : (Try.prog.info? 9).map (·.size) = some 1 := by kernel_rfl
theorem one9 : One Try.prog 9 := one_of Try.underlying9 rfl sz9
theorem fa103_6 : FieldAt Try.prog 103 6 6 9 1 := fieldAt_of Try.underlying103 rfl rfl rfl sz9 (by decide)
theorem sz4 : (Try.prog.info? 4).map (·.size) = some 1 := by kernel_rfl
theorem fa103_7 : FieldAt Try.prog 103 7 7 4 1 := fieldAt_of Try.underlying103 rfl rfl rfl sz4 (by decide)
theorem one4 : One Try.prog 4 := one_of Try.underlying4 rfl sz4
theorem fa103_8 : FieldAt Try.prog 103 8 8 9 1 := fieldAt_of Try.underlying103 rfl rfl rfl sz9 (by decide)
theorem sz101 : (Try.prog.info? 101).map (·.size) = some 1 := by kernel_rfl
theorem fa103_9 : FieldAt Try.prog 103 9 9 101 1 := fieldAt_of Try.underlying103 rfl rfl rfl sz101 (by decide)
theorem sl101 : Sl Try.prog 101 4 56 [.string ⟨#[]⟩, .pointer none, .slice none 0 0, .map none] := sl_of Try.underlying101 (by kernel_rfl) sz101 (by decide) rfl
theorem fa107_0 : FieldAt Try.prog 107 0 0 9 1 := fieldAt_of Try.underlying107 rfl rfl rfl sz9 (by decide)
theorem fa107_1 : FieldAt Try.prog 107 1 1 52 1 := fieldAt_of Try.underlying107 rfl rfl rfl sz52 (by decide)
theorem sz28 : (Try.prog.info? 28).map (·.size) = some 1 := by kernel_rfl
theorem fa107_2 : FieldAt Try.prog 107 2 2 28 1 := fieldAt_of Try.underlying107 rfl rfl rfl sz28 (by decide)
theorem one28 : One Try.prog 28 := one_of Try.underlying28 rfl sz28
theorem sz56 : (Try.prog.info? 56).map (·.size) = some 1 := by kernel_rfl
theorem fa107_3 : FieldAt Try.prog 107 3 3 56 1 := fieldAt_of Try.underlying107 rfl rfl rfl sz56 (by decide)
theorem fa103_10 : FieldAt Try.prog 103 10 10 56 1 := fieldAt_of Try.underlying103 rfl rfl rfl sz56 (by decide)
theorem fa103_0 : FieldAt Try.prog 103 0 0 38 1 := fieldAt_of Try.underlying103 rfl rfl rfl sz38 (by decide)
theorem okW : a.ok Try.prog 5 true true 103 := ⟨app_i32C, fun flex => ⟨fa103_1, (.inl ⟨one21, rfl, fun _ _ => rfl⟩)⟩, ⟨app_i16C, fun flex => ⟨fa103_2, (.inl ⟨one38, rfl, fun _ _ => rfl⟩)⟩, ⟨app_i32C, fun flex => ⟨fa103_3, (.inl ⟨one21, rfl, fun _ _ => rfl⟩)⟩, ⟨⟨rfl, app_cnstrC, app_nstrC⟩, fun flex => by cases flex <;> exact ⟨fa103_4, (.inl ⟨one52, rfl, fun _ _ => rfl⟩)⟩, ⟨fa103_5, one52, by kernel_rfl, one9, ⟨rfl, app_cstrC, app_strC⟩, ⟨rfl, app_cnstrC, app_nstrC⟩, ⟨⟨rfl, app_cstrC, app_strC⟩, fun flex => by cases flex <;> exact ⟨fa103_6, (.inl ⟨one9, rfl, fun _ _ => rfl⟩)⟩, ⟨app_boolC, fun flex => ⟨fa103_7, (.inl ⟨one4, rfl, fun _ _ => rfl⟩)⟩, ⟨⟨rfl, app_cstrC, app_strC⟩, fun flex => by cases flex <;> exact ⟨fa103_8, (.inl ⟨one9, rfl, fun _ _ => rfl⟩)⟩, ⟨rfl, ⟨rfl, len_compact, len_plain⟩, fa103_9, sl101, ⟨⟨rfl, app_cstrC, app_strC⟩, fun flex => by cases flex <;> exact ⟨fa107_0, (.inl ⟨one9, rfl, fun _ _ => rfl⟩)⟩, ⟨⟨rfl, app_cnstrC, app_nstrC⟩, fun flex => by cases flex <;> exact ⟨fa107_1, (.inl ⟨one52, rfl, fun _ _ => rfl⟩)⟩, ⟨⟨rfl, app_cbytC, app_bytC⟩, fun flex => by cases flex <;> exact ⟨fa107_2, (.inl ⟨one28, rfl, fun _ _ => rfl⟩)⟩, ⟨rfl, fa107_3, tags_len, app_uvarint, tags_each, trivial⟩⟩⟩⟩, ⟨rfl, fa103_10, tags_len, app_uvarint, tags_each, trivial⟩⟩⟩⟩⟩⟩⟩⟩⟩⟩
theorem msgW : MsgW Try.prog hn true 103 38 M1 Try.f34.ntmps (some 6) a := ⟨und_int, und_u32, one_i16, fa103_0, okW, rfl, by decide, by decide⟩
theorem plain_of {F : Nat} {fn : Func} (hf : Try.prog.funcs[F]? = some fn) (hb : fn.body.isNone = false) (hn : (fn.name == "runtime.NumGoroutine") = false) : Plain Try.prog F := ⟨fn, hf, hb, hn⟩
noncomputable def bP : Code := (Try.f30.body).getD .skip
noncomputable def bS : Code := (Try.f33.body).getD .skip
noncomputable def bV : Code := (Try.f31.body).getD .skip
noncomputable def bX : Code := (Try.f16.body).getD .skip
noncomputable def bN : Code := (Try.f18.body).getD .skip
theorem codeP : Try.f30.body = some (gNP 60 103 50 bP) := by kernel_rfl
theorem codeS : Try.f33.body = some (gSV 103 38 bS) := by kernel_rfl
theorem codeV : Try.f31.body = some (gK (.int .i16 0) (.int .i16 9) bV) := by kernel_rfl
theorem codeX : Try.f16.body = some (gMx 30 31 50 38 3 bX) := by kernel_rfl
theorem codeN : Try.f18.body = some (gNewM 30 33 34 50 28 3 38 bN) := by kernel_rfl
theorem alc : Alc Try.prog 103 #[.int .i16 0, .int .i32 0, .int .i16 0, .int .i32 0, .pointer none, .pointer none, .string ⟨#[]⟩, .bool false, .string ⟨#[]⟩, .slice none 0 0, .map none] := fun o a w h => by
  obtain ⟨d, op, t, p, af, g⟩ := o
  simp only at h
  subst h
  kernel_rfl
theorem defv : DefV Try.prog 60 103 #[.int .i16 0, .int .i32 0, .int .i16 0, .int .i32 0, .pointer none, .pointer none, .string ⟨#[]⟩, .bool false, .string ⟨#[]⟩, .slice none 0 0, .map none] #[.int .i16 0, .int .i32 0, .int .i16 0, .int .i32 (-1), .pointer none, .pointer none, .string ⟨#[]⟩, .bool false, .string ⟨#[]⟩, .slice none 0 0, .map none] := ⟨plain_of Try.func60 rfl rfl, fun w b hb => by
  have c3 : w.cell? ⟨b, 3, none⟩ = some (.int .i32 0) := by simp [World.cell?, hb]
  have f3 : w.frozen? ⟨b, 3, none⟩ = false := by simp [World.frozen?, hb]
  go_enter Try.func60, Try.ntmps60
  go_wp2
  exact bodyPost_end (results_none rfl _ _ _) rfl ⟨_, rfl, (Only.refl _ _).setCell _ _, heap_setCell_same _ b 3 _ 103 (.int .i32 (-1)) (hb)⟩⟩
theorem new_calls (w : World) : Calls Try.prog 30 #[] w (NewVP #[.int .i16 0, .int .i32 0, .int .i16 0, .int .i32 (-1), .pointer none, .pointer none, .string ⟨#[]⟩, .bool false, .string ⟨#[]⟩, .slice none 0 0, .map none] 103 w) :=
  NPV_calls Try.func30 bP codeP Try.results30 Try.ntmps30 alc defv
theorem set_calls (w : World) (b : Nat) (n : Int) (hb : Blk w b 11) : Calls Try.prog 33 #[.pointer (some ⟨b, 0, none⟩), .int .i16 n] w fun e w' => e = .returned (.tuple #[]) ∧ Only (· = b) w w' ∧ Upd b 0 1 w w' ∧ w'.cell? ⟨b, 0, none⟩ = some (.int .i16 n) :=
  SV_calls Try.func33 bS codeS Try.results33 Try.ntmps33 fa103_0 hb (by decide)
theorem max_calls (w : World) : Calls Try.prog 16 #[] w fun e w' => e = .returned (.int .i64 9) ∧ Only (fun _ => False) w w' :=
  Mx_calls Try.func16 bX codeX Try.results16 Try.ntmps16 und_int Try.underlying38 (plain_of Try.func30 rfl rfl) (plain_of Try.func31 rfl rfl) ((new_calls w).mono fun e w' h => ⟨_, h.1, h.2.1⟩) fun v w' => K_calls Try.func31 bV codeV Try.results31 Try.ntmps31
def zs (ver : Int) : List Value := .int .i16 ver :: (#[.int .i16 0, .int .i32 0, .int .i16 0, .int .i32 (-1), .pointer none, .pointer none, .string ⟨#[]⟩, .bool false, .string ⟨#[]⟩, .slice none 0 0, .map none] : Array Value).toList.tail
theorem new_msg {w : World} {ver : Int} {x : Val} (hr : IntKind.i16.wrap ver = ver) (hx : a.x0 ver (flexOf (some 6) ver) (zs ver) = some x) (hw : wf (a.m ver (flexOf (some 6) ver)).w x) (hl : (enc (a.m ver (flexOf (some 6) ver)).w x).length + 16 ≤ lim2) :
    Calls Try.prog 18 #[.int .i64 ver] w (SpP 5 w (enc (a.m ver (flexOf (some 6) ver)).w x)) :=
  NewM_calls Try.func18 bN codeN Try.results18 Try.ntmps18 (plain_of Try.func30 rfl rfl) (plain_of Try.func33 rfl rfl) (plain_of Try.func34 rfl rfl) und_int Try.underlying38 rfl (by decide) new_calls set_calls
    (fun w D b lo hi ver x hv hH hw hl hb hh hlo hD => appendTo_calls msgW Try.func34 bW codeW Try.results34 rfl hv hH hw hl hb hh (fun h => by cases h) hD) hr hx hw hl
end Go.Proofs.Ytffgggfendppiaa.Kf.MJoinGroupResponse
