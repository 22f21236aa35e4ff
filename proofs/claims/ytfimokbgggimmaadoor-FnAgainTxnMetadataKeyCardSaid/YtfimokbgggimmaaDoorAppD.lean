/- Writing, the third part: the loop over a list's things, tags; THE THEOREM: the code of a part's fields writes just what the form says. -/
import Derived.Test.YtfimokbgggimmaaDoorAppB
import Derived.Test.YtfimokbgggimmaaDoorReadH
namespace Go.Proofs.YtfimokbgggimmaaDoor.Kf
set_option linter.unusedVariables false
set_option linter.unusedSimpArgs false
open Go Go.RowKit

def gRange (G : Hn) (TS k m bt : Nat) (body : Code → Code) (c : Code) : Code :=
  .seq (reg [⟨some m, .move (.tmp k), none⟩, ⟨some (m + 1), .call ⟨.builtin .len, #[.tmp m], #[TS]⟩, none⟩, ⟨some (m + 2), .move (.const (.int .i64 0)), none⟩] (pc c [0]))
    (.block (Code.id0 (pc c [1])) (.loop (.seq (reg [⟨some (m + 3), .binOp .lss G.int (.tmp (m + 2)) (.tmp (m + 1)) G.int, none⟩] (pc c [1, 0, 0, 0]))
      (.seq (.cond (.tmp (m + 3)) .skip (.exit (Code.id0 (pc c [1]))))
        (.seq (.block (Code.id0 (pc c [1, 0, 0, 1, 1, 0])) (body (pc c [1, 0, 0, 1, 1, 0, 0])))
          (reg [⟨some (m + 4 + bt), .binOp .add G.int (.tmp (m + 2)) (.const (.int .i64 1)) G.int, none⟩, ⟨some (m + 2), .move (.tmp (m + 4 + bt)), none⟩] (pc c [1, 0, 0, 1, 1, 1])))))))

section
variable {X : AX} {Q : Exit → Act → World → Prop}

theorem flat_take_succ (em : M) (vs : List Val) (i : Nat) (v : Val) (h : vs[i]? = some v) : ((vs.take (i + 1)).map (enc em.w)).flatten = ((vs.take i).map (enc em.w)).flatten ++ enc em.w v := by
  obtain ⟨hi, rfl⟩ := List.getElem?_eq_some_iff.1 h
  rw [List.take_succ_eq_append_getElem hi]
  simp only [List.map_append, List.flatten_append, List.map_cons, List.map_nil, List.flatten_cons, List.flatten_nil, List.append_nil]

theorem flat_take_le (em : M) (vs : List Val) (i : Nat) : ((vs.take i).map (enc em.w)).flatten.length ≤ ((vs.map (enc em.w)).flatten).length := by
  have : (vs.map (enc em.w)).flatten = ((vs.take i).map (enc em.w)).flatten ++ ((vs.drop i).map (enc em.w)).flatten := by
    rw [← List.flatten_append, ← List.map_append, List.take_append_drop]
  rw [this, List.length_append]; omega

theorem range_wp {TS k m bt c : Nat} {p : Option Addr} {em : M} {vs : List Val} {body : Code → Code} {c0 : Code} (hT : ∃ e, X.P.underlying TS = some (.slice e)) {a0 : Act} {w0 : World} {ds : List UInt8} (hst0 : SA X a0 w0 ds) (hv : gt a0 k = .slice p vs.length c)
    (hn : vs.length ≤ 2147483647) (h6 : X.fs < k) (hk : k < X.M0) (hm : X.M0 ≤ m) (hN : m + 5 + bt ≤ X.N) (hl : ds.length + ((vs.map (enc em.w)).flatten).length + 16 ≤ lim2)
    (hbody : ∀ c a w ds' i v, vs[i]? = some v → SA X a w ds' → gt a (m + 2) = .int .i64 (i : Nat) → Ag (Cw X.M0 (k + 1) m) a0 a → Only (fun j => X.base ≤ j) w0 w → ds'.length + (enc em.w v).length + 16 ≤ lim2 → ∀ Q,
      (∀ a' w', Ag (Cw X.M0 (k + 1) (m + 4)) a a' → Only (fun j => X.base ≤ j) w w' → SA X a' w' (ds' ++ enc em.w v) → Q .normal a' w') → (body c).wp X.P Q a w)
    (h : ∀ a' w', Ag (Cw X.M0 (k + 1) m) a0 a' → Only (fun j => X.base ≤ j) w0 w' → SA X a' w' (ds ++ ((vs.map (enc em.w)).flatten)) → Q .normal a' w') : (gRange X.G TS k m bt body c0).wp X.P Q a0 w0 := by
  have hfs := X.fs_le
  have hsz := hst0.size
  refine wp_seq (wp_reg (wpC_val (runs_move _) ?_))
  have z0 : m < a0.tmps.size := by omega
  rw [evT, hv]
  have g1 := (Ag.refl (Tm m) a0).put (d := m) (by unfold Tm; omega) z0 (.slice p vs.length c)
  have e1 : gt (a0.put (some m) (.slice p vs.length c)) m = .slice p vs.length c := by rw [gt_put z0, if_pos rfl]
  generalize a0.put (some m) (.slice p vs.length c) = a1 at g1 e1
  refine wpC_val (runs_len hT e1) ?_
  have z1 : m + 1 < a1.tmps.size := by rw [g1.size]; omega
  have g2 := g1.put (d := m + 1) (by unfold Tm; omega) z1 (.int .i64 (vs.length : Nat))
  have e2 : gt (a1.put (some (m + 1)) (.int .i64 (vs.length : Nat))) (m + 1) = .int .i64 (vs.length : Nat) := by rw [gt_put z1, if_pos rfl]
  generalize a1.put (some (m + 1)) (.int .i64 (vs.length : Nat)) = a2 at g2 e2
  refine wpC_val (runs_move _) (wpC_nil ?_)
  have z2 : m + 2 < a2.tmps.size := by rw [g2.size]; omega
  have g3 := g2.put (d := m + 2) (by unfold Tm; omega) z2 (a2.eval (.const (.int .i64 0)))
  have e3 : gt (a2.put (some (m + 2)) (a2.eval (.const (.int .i64 0)))) (m + 2) = .int .i64 (0 : Nat) := by rw [gt_put z2, if_pos rfl]; rfl
  have e3l : gt (a2.put (some (m + 2)) (a2.eval (.const (.int .i64 0)))) (m + 1) = .int .i64 (vs.length : Nat) := by rw [gt_put z2, if_neg (by omega)]; exact e2
  generalize a2.put (some (m + 2)) (a2.eval (.const (.int .i64 0))) = a3 at g3 e3 e3l
  have st3 : SA X a3 w0 ds := hst0.act g3 (by unfold Tm; omega) (by unfold Tm; omega) (by unfold Tm; omega)
  have f3 : Ag (Cw X.M0 (k + 1) m) a0 a3 := g3.mono fun j hj => by unfold Tm at hj; unfold Cw; omega
  refine wp_block (wp_loop (fun a w => ∃ i : Nat, i ≤ vs.length ∧ gt a (m + 2) = .int .i64 (i : Nat) ∧ gt a (m + 1) = .int .i64 (vs.length : Nat) ∧ Ag (Cw X.M0 (k + 1) m) a0 a ∧ Only (fun j => X.base ≤ j) w0 w ∧ SA X a w (ds ++ ((vs.take i).map (enc em.w)).flatten))
    (fun a _ => vs.length - (intOf (gt a (m + 2))).toNat) ⟨0, Nat.zero_le _, e3, e3l, f3, Only.refl _ _, by simpa using st3⟩ ?_)
  rintro a w ⟨i, hin, hgi, hgl, hag, honly, hst⟩
  have hs := hst.size
  have z3 : m + 3 < a.tmps.size := by omega
  refine wp_seq (wp_reg (wpC_val (runs_cmp .lss _ (.inl ⟨rfl, rfl⟩) (k := .i64) (p := (i : Nat)) (q := (vs.length : Nat)) hgi hgl) (wpC_nil ?_)))
  have g4 := (Ag.refl (fun j => j = m + 3) a).put (d := m + 3) rfl z3 (.bool (decide (((i : Nat) : Int) < ((vs.length : Nat) : Int))))
  have e4 : gt (a.put (some (m + 3)) (.bool (decide (((i : Nat) : Int) < ((vs.length : Nat) : Int))))) (m + 3) = .bool (decide (((i : Nat) : Int) < ((vs.length : Nat) : Int))) := by rw [gt_put z3, if_pos rfl]
  generalize a.put (some (m + 3)) (.bool (decide (((i : Nat) : Int) < ((vs.length : Nat) : Int)))) = a4 at g4 e4
  have st4 : SA X a4 w (ds ++ ((vs.take i).map (enc em.w)).flatten) := hst.act g4 (by omega) (by omega) (by omega)
  have f4 : Ag (Cw X.M0 (k + 1) m) a0 a4 := hag.trans (g4.mono fun j hj => by unfold Cw; omega)
  refine wp_seq (wp_cond (t := decide (((i : Nat) : Int) < ((vs.length : Nat) : Int))) e4 ?_)
  by_cases hlt : i < vs.length
  · rw [if_pos (by simp; omega)]
    have hvi : vs[i]? = some vs[i] := List.getElem?_eq_getElem hlt
    have hfl := flat_take_succ em vs i vs[i] hvi
    have hle := flat_take_le em vs (i + 1)
    rw [hfl, List.length_append] at hle
    refine wp_skip (wp_seq (wp_block (hbody _ a4 w _ i vs[i] hvi st4 ((g4.keep _ (by omega)).trans hgi) f4 honly (by rw [List.length_append]; omega) _ fun a5 w5 g5 o5 st5 => ?_)))
    have i5 : gt a5 (m + 2) = .int .i64 (i : Nat) := (g5.keep _ (by unfold Cw; omega)).trans ((g4.keep _ (by omega)).trans hgi)
    have l5 : gt a5 (m + 1) = .int .i64 (vs.length : Nat) := (g5.keep _ (by unfold Cw; omega)).trans ((g4.keep _ (by omega)).trans hgl)
    have s5 := st5.size
    show (reg _ _).wp X.P _ a5 w5
    refine wp_reg (wpC_val (runs_add (k := .i64) (p := (i : Nat)) (q := 1) i5 rfl) ?_)
    have ew : IntKind.i64.wrap ((i : Nat) + 1) = ((i + 1 : Nat) : Int) := by rw [IntWalk.i64_in _ (by omega)]; omega
    rw [ew]
    have z5 : m + 4 + bt < a5.tmps.size := by omega
    have g6 := (Ag.refl (Tm (m + 2)) a5).put (d := m + 4 + bt) (by unfold Tm; omega) z5 (.int .i64 ((i + 1 : Nat) : Int))
    have e6 : gt (a5.put (some (m + 4 + bt)) (.int .i64 ((i + 1 : Nat) : Int))) (m + 4 + bt) = .int .i64 ((i + 1 : Nat) : Int) := by rw [gt_put z5, if_pos rfl]
    have e6l : gt (a5.put (some (m + 4 + bt)) (.int .i64 ((i + 1 : Nat) : Int))) (m + 1) = .int .i64 (vs.length : Nat) := by rw [gt_put z5, if_neg (by omega)]; exact l5
    generalize a5.put (some (m + 4 + bt)) (.int .i64 ((i + 1 : Nat) : Int)) = a6 at g6 e6 e6l
    refine wpC_val (runs_move _) (wpC_nil ?_)
    rw [evT, e6]
    have z6 : m + 2 < a6.tmps.size := by rw [g6.size]; omega
    have g7 := g6.put (d := m + 2) (by unfold Tm; omega) z6 (.int .i64 ((i + 1 : Nat) : Int))
    have e7 : gt (a6.put (some (m + 2)) (.int .i64 ((i + 1 : Nat) : Int))) (m + 2) = .int .i64 ((i + 1 : Nat) : Int) := by rw [gt_put z6, if_pos rfl]
    have e7l : gt (a6.put (some (m + 2)) (.int .i64 ((i + 1 : Nat) : Int))) (m + 1) = .int .i64 (vs.length : Nat) := by rw [gt_put z6, if_neg (by omega)]; exact e6l
    generalize a6.put (some (m + 2)) (.int .i64 ((i + 1 : Nat) : Int)) = a7 at g7 e7 e7l
    refine ⟨⟨i + 1, hlt, e7, e7l, (f4.trans (g5.cw (Nat.le_refl _) (by omega))).trans (g7.mono fun j hj => by unfold Tm at hj; unfold Cw; omega), honly.trans o5, ?_⟩, ?_⟩
    · rw [hfl, ← List.append_assoc]
      exact st5.act g7 (by unfold Tm; omega) (by unfold Tm; omega) (by unfold Tm; omega)
    · rw [e7, hgi]; simp [intOf]; omega
  · obtain rfl : i = vs.length := by omega
    rw [if_neg (by simp)]
    refine wp_exit ?_
    show (if Code.id0 (pc c0 [1]) = Code.id0 (pc c0 [1]) then Q .normal a4 w else Q (.exit _) a4 w)
    rw [if_pos rfl]
    rw [List.take_length] at st4
    exact h a4 w f4 honly st4

/-! ### tags -/

def gATags (G : Hn) (FL FU FE T i s m : Nat) (c : Code) : Code :=
  .seq (gMove 6 m (pc c [0])) (.cond (.tmp m) (.seq
    (reg [⟨some (m + 1), .move (.tmp 1), none⟩, ⟨some (m + 2), .move (.tmp s), none⟩, ⟨some (m + 3), .nilCheck (.tmp (m + 2)), none⟩, ⟨some (m + 4), .fieldAddr T (.tmp (m + 3)) i, none⟩, ⟨some (m + 5), .call ⟨.value (.func FL), #[.tmp (m + 4)], #[G.tg]⟩, none⟩,
      ⟨some (m + 6), .convert G.int G.u32 (.tmp (m + 5)), none⟩, ⟨some (m + 7), .binOp .add G.u32 (.const (.int .u32 0)) (.tmp (m + 6)) G.u32, none⟩, ⟨some (m + 8), .call ⟨.value (.func FU), #[.tmp (m + 1), .tmp (m + 7)], #[G.sl, G.u32]⟩, none⟩, ⟨some 1, .assign (.tmp (m + 8)), none⟩] (pc c [1, 0, 0]))
    (reg [⟨some (m + 9), .move (.tmp s), none⟩, ⟨some (m + 10), .nilCheck (.tmp (m + 9)), none⟩, ⟨some (m + 11), .fieldAddr T (.tmp (m + 10)) i, none⟩, ⟨some (m + 12), .move (.tmp 1), none⟩, ⟨some (m + 13), .call ⟨.value (.func FE), #[.tmp (m + 11), .tmp (m + 12)], #[G.tg, G.sl]⟩, none⟩, ⟨some 1, .assign (.tmp (m + 13)), none⟩] (pc c [1, 0, 1]))) .skip)

theorem runs_conv {P : Program} {a : Act} {w : World} {t1 t2 : Nat} {x : Operand} {k1 k2 : IntKind} {n : Int} (h1 : P.underlying t1 = some (.int k1)) (h2 : P.underlying t2 = some (.int k2)) (hx : a.eval x = .int k1 n) : Runs P a w (.convert t1 t2 x) (.int k2 (k2.wrap n)) w := by
  intro o h
  simp [execOp, h, hx, convert, run_underlying h1, run_underlying h2, Conv.intToInt]

theorem gATags_wp {FL FU FE T i o u s k m b off lo hi : Nat} {c0 : Code} {l : List (Nat × List UInt8)} (hint : X.P.underlying X.G.int = some (.int .i64)) (hu32 : X.P.underlying X.G.u32 = some (.int .u32)) (hfx : X.fx = true) (hfl : X.flex = true)
    (hL : TLenC X.P FL) (hU : UvC X.P X.G.u8 FU) (hE : TEachC X.P X.G.u8 FE) {a : Act} {w : World} {ds : List UInt8} (hst : SA X a w ds) (hs : gt a s = .pointer (some ⟨b, off, none⟩)) (hf : FieldAt X.P T i o u 1) (hH : Holds X.D .tags w lo hi b (off + o) (.tags l)) (hw : wf .tags (.tags l))
    (hbB : b < X.base) (hhi : hi ≤ X.base) (hD : X.D < X.base) (h6 : X.fs < k) (h1s : s ≠ 1) (hsk : s < k) (hk : k ≤ X.M0) (hm : X.M0 ≤ m) (hN : m + 14 ≤ X.N) (hl : ds.length + (enc .tags (.tags l)).length + 16 ≤ lim2)
    (h : ∀ a' w', Ag (Cw X.M0 k m) a a' → Only (fun j => X.base ≤ j) w w' → SA X a' w' (ds ++ enc .tags (.tags l)) → Q .normal a' w') : (gATags X.G FL FU FE T i s m c0).wp X.P Q a w := by
  have hfs := AX.fs6 hfx
  have hsz := hst.size
  have hbase := hst.base
  obtain ⟨cs, hc1, hc2⟩ := RK.of_holds (k := .tags) hH
  have hls : l.length < 4294967296 := hw.2
  have z0 : m < a.tmps.size := by omega
  refine wp_seq (gMove_wp' z0 ?_)
  have g1 := (Ag.refl (Tm m) a).put (d := m) (by unfold Tm; omega) z0 (gt a 6)
  have e1 : gt (a.put (some m) (gt a 6)) m = .bool true := by rw [gt_put z0, if_pos rfl, hst.fl hfx, hfl]
  generalize a.put (some m) (gt a 6) = a1 at g1 e1
  refine wp_cond_true e1 (wp_seq (wp_reg (wpC_val (runs_move _) ?_)))
  have z1 : m + 1 < a1.tmps.size := by rw [g1.size]; omega
  rw [evT, show gt a1 1 = gt a 1 from g1.keep 1 (by unfold Tm; omega)]
  have g2 := g1.put (d := m + 1) (by unfold Tm; omega) z1 (gt a 1)
  have e2 : gt (a1.put (some (m + 1)) (gt a 1)) (m + 1) = gt a 1 := by rw [gt_put z1, if_pos rfl]
  generalize a1.put (some (m + 1)) (gt a 1) = a2 at g2 e2
  have s2 : gt a2 s = .pointer (some ⟨b, off, none⟩) := (g2.keep s (by unfold Tm; omega)).trans hs
  refine wpC_val (runs_move _) ?_
  rw [evT, s2]
  have z2 : m + 2 < a2.tmps.size := by rw [g2.size]; omega
  have g3 := g2.put (d := m + 2) (by unfold Tm; omega) z2 (.pointer (some ⟨b, off, none⟩))
  have e3 : gt (a2.put (some (m + 2)) (.pointer (some ⟨b, off, none⟩))) (m + 2) = .pointer (some ⟨b, off, none⟩) := by rw [gt_put z2, if_pos rfl]
  have d3 : gt (a2.put (some (m + 2)) (.pointer (some ⟨b, off, none⟩))) (m + 1) = gt a 1 := by rw [gt_put z2, if_neg (by omega)]; exact e2
  generalize a2.put (some (m + 2)) (.pointer (some ⟨b, off, none⟩)) = a3 at g3 e3 d3
  refine wpC_val (runs_nilCheck (p := ⟨b, off, none⟩) e3) ?_
  have z3 : m + 3 < a3.tmps.size := by rw [g3.size]; omega
  have g4 := g3.put (d := m + 3) (by unfold Tm; omega) z3 (.pointer (some ⟨b, off, none⟩))
  have e4 : gt (a3.put (some (m + 3)) (.pointer (some ⟨b, off, none⟩))) (m + 3) = .pointer (some ⟨b, off, none⟩) := by rw [gt_put z3, if_pos rfl]
  have d4 : gt (a3.put (some (m + 3)) (.pointer (some ⟨b, off, none⟩))) (m + 1) = gt a 1 := by rw [gt_put z3, if_neg (by omega)]; exact d3
  generalize a3.put (some (m + 3)) (.pointer (some ⟨b, off, none⟩)) = a4 at g4 e4 d4
  refine wpC_val (runs_fieldAddr hf (p := ⟨b, off, none⟩) e4) ?_
  rw [Addr.add_lit]
  have z4 : m + 4 < a4.tmps.size := by rw [g4.size]; omega
  have g5 := g4.put (d := m + 4) (by unfold Tm; omega) z4 (.pointer (some ⟨b, off + o, none⟩))
  have e5 : gt (a4.put (some (m + 4)) (.pointer (some ⟨b, off + o, none⟩))) (m + 4) = .pointer (some ⟨b, off + o, none⟩) := by rw [gt_put z4, if_pos rfl]
  have d5 : gt (a4.put (some (m + 4)) (.pointer (some ⟨b, off + o, none⟩))) (m + 1) = gt a 1 := by rw [gt_put z4, if_neg (by omega)]; exact d4
  generalize a4.put (some (m + 4)) (.pointer (some ⟨b, off + o, none⟩)) = a5 at g5 e5 d5
  refine wpC_call (R := fun v w' => v = .int .i64 (l.length : Nat) ∧ Only (fun _ => False) w w') hL.1 (by rw [args1 e5]; exact hL.2 X.D w b (off + o) lo hi cs l hc1 hc2) ?_
  rintro v w1 ⟨rfl, ho1⟩
  have z5 : m + 5 < a5.tmps.size := by rw [g5.size]; omega
  have g6 := g5.put (d := m + 5) (by unfold Tm; omega) z5 (.int .i64 (l.length : Nat))
  have e6 : gt (a5.put (some (m + 5)) (.int .i64 (l.length : Nat))) (m + 5) = .int .i64 (l.length : Nat) := by rw [gt_put z5, if_pos rfl]
  have d6 : gt (a5.put (some (m + 5)) (.int .i64 (l.length : Nat))) (m + 1) = gt a 1 := by rw [gt_put z5, if_neg (by omega)]; exact d5
  generalize a5.put (some (m + 5)) (.int .i64 (l.length : Nat)) = a6 at g6 e6 d6
  refine wpC_val (runs_conv hint hu32 e6) ?_
  rw [IntWalk.u32_in _ (by omega)]
  have z6 : m + 6 < a6.tmps.size := by rw [g6.size]; omega
  have g7 := g6.put (d := m + 6) (by unfold Tm; omega) z6 (.int .u32 (l.length : Nat))
  have e7 : gt (a6.put (some (m + 6)) (.int .u32 (l.length : Nat))) (m + 6) = .int .u32 (l.length : Nat) := by rw [gt_put z6, if_pos rfl]
  have d7 : gt (a6.put (some (m + 6)) (.int .u32 (l.length : Nat))) (m + 1) = gt a 1 := by rw [gt_put z6, if_neg (by omega)]; exact d6
  generalize a6.put (some (m + 6)) (.int .u32 (l.length : Nat)) = a7 at g7 e7 d7
  refine wpC_val (runs_add (k := .u32) (p := 0) (q := (l.length : Nat)) rfl e7) ?_
  rw [Int.zero_add, IntWalk.u32_in _ (by omega)]
  have z7 : m + 7 < a7.tmps.size := by rw [g7.size]; omega
  have g8 := g7.put (d := m + 7) (by unfold Tm; omega) z7 (.int .u32 (l.length : Nat))
  have e8 : gt (a7.put (some (m + 7)) (.int .u32 (l.length : Nat))) (m + 7) = .int .u32 (l.length : Nat) := by rw [gt_put z7, if_pos rfl]
  have d8 : gt (a7.put (some (m + 7)) (.int .u32 (l.length : Nat))) (m + 1) = gt a 1 := by rw [gt_put z7, if_neg (by omega)]; exact d7
  generalize a7.put (some (m + 7)) (.int .u32 (l.length : Nat)) = a8 at g8 e8 d8
  have hb1 : X.base ≤ w1.heap.size := Nat.le_trans hbase ho1.size
  simp only [enc, List.length_append] at hl
  refine wpC_call (R := fun v w' => Own X.G.u8 X.base w' v (ds ++ uvEnc l.length) ∧ Only (fun j => X.base ≤ j) w1 w') hU.1 (by rw [args2 d8 e8]; exact hU.2 X.base w1 _ ds l.length (hst.own.keep ho1) hls hb1 (by omega)) ?_
  rintro v w2 ⟨hv2, ho2⟩
  have z8 : m + 8 < a8.tmps.size := by rw [g8.size]; omega
  have g9 := g8.put (d := m + 8) (by unfold Tm; omega) z8 v
  have e9 : gt (a8.put (some (m + 8)) v) (m + 8) = v := by rw [gt_put z8, if_pos rfl]
  generalize a8.put (some (m + 8)) v = a9 at g9 e9
  refine wpC_val (runs_assign _) (wpC_nil ?_)
  rw [evT, e9]
  have z9 : 1 < a9.tmps.size := by rw [g9.size]; omega
  have g10 : Ag (Cw X.M0 k m) a (a9.put (some 1) v) := (g9.mono (S' := Cw X.M0 k m) fun j hj => by unfold Tm at hj; unfold Cw; omega).put (d := 1) (.inl rfl) z9 v
  have e10 : gt (a9.put (some 1) v) 1 = v := by rw [gt_put z9, if_pos rfl]
  generalize a9.put (some 1) v = a10 at g10 e10
  have o12 : Only (fun j => X.base ≤ j) w w2 := (ho1.none _).trans ho2
  -- each tag
  show (reg _ _).wp X.P _ a10 w2
  refine wp_reg (wpC_val (runs_move _) ?_)
  have y0 : m + 9 < a10.tmps.size := by rw [g10.size]; omega
  rw [evT, show gt a10 s = .pointer (some ⟨b, off, none⟩) from (g10.keep s (by unfold Cw; omega)).trans hs]
  have k1 := (Ag.refl (Tm m) a10).put (d := m + 9) (by unfold Tm; omega) y0 (.pointer (some ⟨b, off, none⟩))
  have q1 : gt (a10.put (some (m + 9)) (.pointer (some ⟨b, off, none⟩))) (m + 9) = .pointer (some ⟨b, off, none⟩) := by rw [gt_put y0, if_pos rfl]
  generalize a10.put (some (m + 9)) (.pointer (some ⟨b, off, none⟩)) = b1 at k1 q1
  refine wpC_val (runs_nilCheck (p := ⟨b, off, none⟩) q1) ?_
  have y1 : m + 10 < b1.tmps.size := by rw [k1.size, g10.size]; omega
  have k2 := k1.put (d := m + 10) (by unfold Tm; omega) y1 (.pointer (some ⟨b, off, none⟩))
  have q2 : gt (b1.put (some (m + 10)) (.pointer (some ⟨b, off, none⟩))) (m + 10) = .pointer (some ⟨b, off, none⟩) := by rw [gt_put y1, if_pos rfl]
  generalize b1.put (some (m + 10)) (.pointer (some ⟨b, off, none⟩)) = b2 at k2 q2
  refine wpC_val (runs_fieldAddr hf (p := ⟨b, off, none⟩) q2) ?_
  rw [Addr.add_lit]
  have y2 : m + 11 < b2.tmps.size := by rw [k2.size, g10.size]; omega
  have k3 := k2.put (d := m + 11) (by unfold Tm; omega) y2 (.pointer (some ⟨b, off + o, none⟩))
  have q3 : gt (b2.put (some (m + 11)) (.pointer (some ⟨b, off + o, none⟩))) (m + 11) = .pointer (some ⟨b, off + o, none⟩) := by rw [gt_put y2, if_pos rfl]
  generalize b2.put (some (m + 11)) (.pointer (some ⟨b, off + o, none⟩)) = b3 at k3 q3
  refine wpC_val (runs_move _) ?_
  rw [evT, show gt b3 1 = v from (k3.keep 1 (by unfold Tm; omega)).trans e10]
  have y3 : m + 12 < b3.tmps.size := by rw [k3.size, g10.size]; omega
  have k4 := k3.put (d := m + 12) (by unfold Tm; omega) y3 v
  have q4 : gt (b3.put (some (m + 12)) v) (m + 12) = v := by rw [gt_put y3, if_pos rfl]
  have q4b : gt (b3.put (some (m + 12)) v) (m + 11) = .pointer (some ⟨b, off + o, none⟩) := by rw [gt_put y3, if_neg (by omega)]; exact q3
  generalize b3.put (some (m + 12)) v = b4 at k4 q4 q4b
  have hc1' : Cells w2 b (off + o) cs := fun j u hu => (World.cell?_of_block (w := w) (o12.block b (by omega) (by omega))).trans (hc1 j u hu)
  have hc2' : LTags X.D w2 lo hi cs (.tags l) := RK.leaf_keep (k := .tags) hc2 (o12.block _ (by omega) (by omega)) fun q q1 q2 => o12.block q (by omega) (by omega)
  have hb2 : X.base ≤ w2.heap.size := Nat.le_trans hbase o12.size
  refine wpC_call (R := fun v' w' => Own X.G.u8 X.base w' v' (ds ++ uvEnc l.length ++ encTags l) ∧ Only (fun j => X.base ≤ j) w2 w') hE.1 (by rw [args2 q4b q4]; exact hE.2 X.D X.base w2 v _ b (off + o) lo hi cs l hv2 hc1' hc2' hw.1 hls hbB hhi hD hb2 (by rw [List.length_append]; omega)) ?_
  rintro v' w3 ⟨hv3, ho3⟩
  have y4 : m + 13 < b4.tmps.size := by rw [k4.size, g10.size]; omega
  have k5 := k4.put (d := m + 13) (by unfold Tm; omega) y4 v'
  have q5 : gt (b4.put (some (m + 13)) v') (m + 13) = v' := by rw [gt_put y4, if_pos rfl]
  generalize b4.put (some (m + 13)) v' = b5 at k5 q5
  refine wpC_val (runs_assign _) (wpC_nil ?_)
  rw [evT, q5]
  have y5 : 1 < b5.tmps.size := by rw [k5.size, g10.size]; omega
  have k6 : Ag (Cw X.M0 k m) a (b5.put (some 1) v') := g10.trans ((k5.mono (S' := Cw X.M0 k m) fun j hj => by unfold Tm at hj; unfold Cw; omega).put (d := 1) (.inl rfl) y5 v')
  refine h _ w3 k6 (o12.trans ho3) (hst.next k6 h6 (by omega) ?_ (o12.trans ho3))
  rw [gt_put y5, if_pos rfl]
  simpa [enc, List.append_assoc] using hv3
end
end Go.Proofs.YtfimokbgggimmaaDoor.Kf
