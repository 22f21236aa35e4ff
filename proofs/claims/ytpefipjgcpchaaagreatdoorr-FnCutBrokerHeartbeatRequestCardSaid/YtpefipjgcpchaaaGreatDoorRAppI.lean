/- Writing, the last part: a whole message. -/
import Derived.Test.YtpefipjgcpchaaaGreatDoorRPD
import Derived.Test.YtpefipjgcpchaaaGreatDoorRReadI
namespace Go.Proofs.YtpefipjgcpchaaaGreatDoorR.Kf
set_option linter.unusedVariables false
set_option linter.unusedSimpArgs false
open Go Go.RowKit

def gTailW (m : Nat) (c : Code) : Code := .seq (gCopy 1 4 m (pc c [0])) .ret
def gWrite (G : Hn) (T i16 M0 : Nat) (fx : Option Int) (r : A) (c : Code) : Code :=
  .seq (reg [⟨some 4, .assign (.const (.slice none 0 0)), none⟩] (pc c [0])) (.seq (gLoad T 0 i16 0 5 M0 (pc c [1, 0])) (.seq (gMove 5 (M0 + 4) (pc c [1, 1, 0]))
    (match fx with
    | none => gA G r T 0 6 (M0 + 5) (some (gTailW (M0 + 5 + r.t))) (pc c [1, 1, 1])
    | some n => .seq (reg [⟨some (M0 + 5), .move (.tmp 5), none⟩, ⟨some (M0 + 6), .binOp .geq i16 (.tmp (M0 + 5)) (.const (.int .i16 n)) i16, none⟩, ⟨some 6, .assign (.tmp (M0 + 6)), none⟩] (pc c [1, 1, 1, 0]))
      (.seq (gMove 6 (M0 + 7) (pc c [1, 1, 1, 1, 0])) (gA G r T 0 7 (M0 + 8) (some (gTailW (M0 + 8 + r.t))) (pc c [1, 1, 1, 1, 1]))))))

/-- What a message's writing rests on. -/
structure MsgW (P : Program) (G : Hn) (q : Bool) (T i16 M0 NT : Nat) (fx : Option Int) (r : A) : Prop where
  int : P.underlying G.int = some (.int .i64)
  u32 : P.underlying G.u32 = some (.int .u32)
  i16o : One P i16
  f0 : FieldAt P T 0 0 i16 1
  ro : r.ok P G.u8 q fx.isSome T
  M : M0 = (if fx.isSome then 7 else 6) + r.k
  M7 : 7 ≤ M0
  N : M0 + (if fx.isSome then 8 else 5) + r.t < NT

/-- A MESSAGE's WRITING. -/
theorem appendTo_calls {P : Program} {G : Hn} {q : Bool} {T i16 M0 NT : Nat} {fx : Option Int} {r : A} (H : MsgW P G q T i16 M0 NT fx r) {F : Nat} {fn : Func} (hfn : P.funcs[F]? = some fn) (c0 : Code) (hbody : fn.body = some (gWrite G T i16 M0 fx r c0)) (hres : fn.results = #[.tmp 4]) (hnt : fn.ntmps = NT)
    {w : World} {D b lo hi : Nat} {ver : Int} {x : Val} (hver : w.cell? ⟨b, 0, none⟩ = some (.int .i16 ver)) (hH : Holds D (r.m ver (flexOf fx ver)) w lo hi b 0 x) (hw : wf (r.m ver (flexOf fx ver)).w x) (hlen : (enc (r.m ver (flexOf fx ver)).w x).length + 16 ≤ lim2)
    (hb : b < w.heap.size) (hhi : hi ≤ w.heap.size) (hlo : q = false → w.heap.size ≤ lo) (hD : D < w.heap.size) :
    Calls P F #[.pointer (some ⟨b, 0, none⟩), .slice none 0 0] w fun e w' => ∃ v, e = .returned v ∧ Own G.u8 w.heap.size w' v (enc (r.m ver (flexOf fx ver)).w x) ∧ Only (fun _ => False) w w' := by
  refine calls_of_wp hfn hbody ?_
  have hM := H.M
  have hM7 := H.M7
  have hN := H.N
  have hN5 : M0 + 5 + r.t < NT := by split at hN <;> omega
  obtain ⟨a, ha⟩ : ∃ a : Act, a = { tmps := #[.pointer (some ⟨b, 0, none⟩), .slice none 0 0] ++ Array.replicate (fn.ntmps - (#[.pointer (some ⟨b, 0, none⟩), .slice none 0 0] : Array Value).size) undef, defers := [] } := ⟨_, rfl⟩
  rw [← ha]
  have asz : a.tmps.size = NT := by rw [ha]; simp [hnt]; omega
  have adf : a.defers = [] := by rw [ha]
  have a0 : gt a 0 = .pointer (some ⟨b, 0, none⟩) := by rw [ha]; exact gt_app _ _ 0 _ rfl
  have a1 : gt a 1 = .slice none 0 0 := by rw [ha]; exact gt_app _ _ 1 _ rfl
  clear ha
  refine wp_seq (gNil_wp (by omega) fun a3 g3 _ => ?_)
  have s3 : a3.tmps.size = NT := g3.size.trans asz
  refine wp_seq (gLoad_wp (b := b) (off := 0) ((g3.keep 0 (by omega)).trans a0) H.f0 H.i16o (by simpa using hver) (by omega) (by omega) fun a4 g4 v4 => ?_)
  have s4 : a4.tmps.size = NT := g4.size.trans s3
  have z4 : M0 + 4 < a4.tmps.size := by omega
  refine wp_seq (gMove_wp' z4 ?_)
  have g5 := (Ag.refl (Tm M0) a4).put (d := M0 + 4) (by unfold Tm; omega) z4 (gt a4 5)
  generalize a4.put (some (M0 + 4)) (gt a4 5) = a5 at g5
  have s5 : a5.tmps.size = NT := g5.size.trans s4
  have d5 : a5.defers = [] := g5.defers.trans (g4.defers.trans (g3.defers.trans adf))
  have f5 : ∀ j, j < 4 → gt a5 j = gt a j := fun j hj => (g5.keep j (by unfold Tm; omega)).trans ((g4.keep j (by omega)).trans (g3.keep j (by omega)))
  have v5 : gt a5 5 = .int .i16 ver := (g5.keep 5 (by unfold Tm; omega)).trans v4
  have hown : Own G.u8 w.heap.size w (.slice none 0 0) [] := World.ownsRow_nil _ _ _ _
  have fin : ∀ (X : AX), X.P = P → X.G = G → X.base = w.heap.size → X.N = NT → ∀ (m : Nat), m < NT → ∀ a' w', Only (fun j => X.base ≤ j) w w' → SA X a' w' (enc (r.m ver (flexOf fx ver)).w x) → ∀ c, (gTailW m c).wp P (bodyPost P fn fun e w' => ∃ v, e = .returned v ∧ Own G.u8 w.heap.size w' v (enc (r.m ver (flexOf fx ver)).w x) ∧ Only (fun _ => False) w w') a' w' := by
    intro X h1 h2 h3 h4 m hm a' w' ho hst c
    have s' := hst.size
    refine wp_seq (gCopy_wp (by omega) (by omega) fun a6 g6 v6 => wp_ret ?_)
    refine bodyPost_ret (results_tmp hres _ _ _) (g6.defers.trans hst.defers) ?_
    have e6 : a6.tmps.getD 4 undef = gt a' 1 := v6
    rw [e6]
    refine ⟨_, rfl, by rw [← h2, ← h3]; exact hst.own, ?_⟩
    rw [h3] at ho
    exact ⟨ho.os, ho.tape, ho.output, ho.size, fun k hk _ => ho.block k hk (by omega)⟩
  cases hfx : fx with
  | none =>
    subst hfx
    simp only [Option.isSome_none, Bool.false_eq_true, if_false] at hM hN
    let X : AX := { P := P, G := G, D := D, base := w.heap.size, ver := ver, fx := false, flex := false, N := NT, M0 := M0, q := q }
    have st : SA X a5 w [] := ⟨s5, d5, v5, (fun h => by cases h), (by rw [f5 1 (by decide), a1]; exact hown), Nat.le_refl _, hD⟩
    exact A_writes (X := X) ⟨H.int, H.u32, hM7⟩ r T 0 6 (M0 + 5) b 0 lo hi _ _ a5 w [] x H.ro ⟨st, (f5 0 (by decide)).trans a0, hH, hw, (by simp only [List.length_nil, Nat.zero_add]; exact hlen), hb, hhi, hlo, hD, by decide, (by show (if false = true then 6 else 5) < 6; decide), by decide, by show 6 + r.k ≤ M0; omega, by show M0 ≤ M0 + 5; omega, by show M0 + 5 + r.t ≤ NT; omega⟩ _
      fun a' w' h1 h2 h3 => fin X rfl rfl rfl rfl (M0 + 5 + r.t) (by omega) a' w' h2 (by have h4 := h3; rw [List.nil_append] at h4; exact h4)
  | some n =>
    subst hfx
    simp only [Option.isSome_some, if_true] at hM hN
    have z5 : M0 + 5 < a5.tmps.size := by omega
    refine wp_seq (wp_reg (wpC_val (runs_move _) ?_))
    rw [evT, v5]
    have g6 := (Ag.refl (fun j => 6 ≤ j) a5).put (d := M0 + 5) (by omega) z5 (.int .i16 ver)
    have e6 : gt (a5.put (some (M0 + 5)) (.int .i16 ver)) (M0 + 5) = .int .i16 ver := by rw [gt_put z5, if_pos rfl]
    generalize a5.put (some (M0 + 5)) (.int .i16 ver) = a6 at g6 e6
    have z6 : M0 + 6 < a6.tmps.size := by rw [g6.size]; omega
    refine wpC_val (runs_cmp .geq _ (.inr (.inl ⟨rfl, rfl⟩)) (k := .i16) (p := ver) (q := n) e6 rfl) ?_
    have g7 := g6.put (d := M0 + 6) (by omega) z6 (.bool (decide (ver ≥ n)))
    have e7 : gt (a6.put (some (M0 + 6)) (.bool (decide (ver ≥ n)))) (M0 + 6) = .bool (decide (ver ≥ n)) := by rw [gt_put z6, if_pos rfl]
    generalize a6.put (some (M0 + 6)) (.bool (decide (ver ≥ n))) = a7 at g7 e7
    refine wpC_val (runs_assign _) (wpC_nil ?_)
    rw [evT, e7]
    have z7 : 6 < a7.tmps.size := by rw [g7.size]; omega
    have g8 := g7.put (d := 6) (Nat.le_refl _) z7 (.bool (decide (ver ≥ n)))
    have e8 : gt (a7.put (some 6) (.bool (decide (ver ≥ n)))) 6 = .bool (decide (ver ≥ n)) := by rw [gt_put z7, if_pos rfl]
    generalize a7.put (some 6) (.bool (decide (ver ≥ n))) = a8 at g8 e8
    have z8 : M0 + 7 < a8.tmps.size := by rw [g8.size]; omega
    refine wp_seq (gMove_wp' z8 ?_)
    have g9 := g8.put (d := M0 + 7) (by omega) z8 (gt a8 6)
    have e9 : gt (a8.put (some (M0 + 7)) (gt a8 6)) 6 = .bool (decide (ver ≥ n)) := by rw [gt_put z8, if_neg (by omega)]; exact e8
    generalize a8.put (some (M0 + 7)) (gt a8 6) = a9 at g9 e9
    let X : AX := { P := P, G := G, D := D, base := w.heap.size, ver := ver, fx := true, flex := decide (ver ≥ n), N := NT, M0 := M0, q := q }
    have st : SA X a9 w [] := ⟨g9.size.trans s5, g9.defers.trans d5, (g9.keep 5 (by omega)).trans v5, (fun _ => e9), (by rw [g9.keep 1 (by omega), f5 1 (by decide), a1]; exact hown), Nat.le_refl _, hD⟩
    exact A_writes (X := X) ⟨H.int, H.u32, hM7⟩ r T 0 7 (M0 + 8) b 0 lo hi _ _ a9 w [] x H.ro ⟨st, (g9.keep 0 (by omega)).trans ((f5 0 (by decide)).trans a0), hH, hw, (by simp only [List.length_nil, Nat.zero_add]; exact hlen), hb, hhi, hlo, hD, by decide, by show (if true = true then 6 else 5) < 7; decide, by decide, by show 7 + r.k ≤ M0; omega, by show M0 ≤ M0 + 8; omega, by show M0 + 8 + r.t ≤ NT; omega⟩ _
      fun a' w' h1 h2 h3 => fin X rfl rfl rfl rfl (M0 + 8 + r.t) (by omega) a' w' h2 (by have h4 := h3; rw [List.nil_append] at h4; exact h4)
end Go.Proofs.YtpefipjgcpchaaaGreatDoorR.Kf
