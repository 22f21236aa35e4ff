/- Reading, the third part: the loop over a list's things. -/
import Derived.Test.YtfimokbgggimmaaDoorReadB
namespace Go.Proofs.YtfimokbgggimmaaDoor.Kf
set_option linter.unusedVariables false
set_option linter.unusedSimpArgs false
open Go Go.RowKit

theorem listDec_snoc (f : List UInt8 → Option (Val × List UInt8)) : ∀ (n : Nat) (l : List UInt8),
    listDec f (n + 1) l = match listDec f n l with | none => none | some (vs, l') => match f l' with | none => none | some (v, l'') => some (vs ++ [v], l'') := by
  intro n
  induction n with
  | zero =>
    intro l
    simp only [listDec]
    cases f l with
    | none => rfl
    | some x => obtain ⟨v, r⟩ := x; rfl
  | succ n ih =>
    intro l
    rw [listDec]
    rw [show listDec f (n + 1) l = match f l with | none => none | some (v, l) => match listDec f n l with | none => none | some (vs, l) => some (v :: vs, l) from rfl]
    cases f l with
    | none => rfl
    | some x =>
      obtain ⟨v, r⟩ := x
      simp only
      rw [ih r]
      cases listDec f n r with
      | none => rfl
      | some y =>
        obtain ⟨vs, r2⟩ := y
        simp only
        cases f r2 with
        | none => rfl
        | some z => obtain ⟨u, r3⟩ := z; rfl

theorem listDec_none (f : List UInt8 → Option (Val × List UInt8)) {i n : Nat} {l : List UInt8} (h : listDec f i l = none) (hn : i ≤ n) : listDec f n l = none := by
  induction n with
  | zero => obtain rfl : i = 0 := by omega
            exact h
  | succ n ih =>
    by_cases e : i = n + 1
    · subst e; exact h
    · rw [listDec_snoc, ih (by omega)]

theorem listDec_length (f : List UInt8 → Option (Val × List UInt8)) : ∀ (n : Nat) (l : List UInt8) (vs : List Val) (r : List UInt8), listDec f n l = some (vs, r) → vs.length = n := by
  intro n
  induction n with
  | zero => intro l vs r h; simp [listDec] at h; simp [h.1]
  | succ n ih =>
    intro l vs r h
    simp only [listDec] at h
    cases hf : f l with
    | none => rw [hf] at h; cases h
    | some x =>
      obtain ⟨v, l1⟩ := x
      rw [hf] at h
      simp only at h
      cases hg : listDec f n l1 with
      | none => rw [hg] at h; cases h
      | some y =>
        obtain ⟨us, l2⟩ := y
        rw [hg] at h
        simp at h
        rw [← h.1, List.length_cons, ih _ _ _ hg]

def gFor (G : Gn) (is ls m : Nat) (body : Code → Code) (c0 : Code) : Code :=
  .seq (reg [⟨some is, .assign (.const (.int .i32 0)), none⟩] (pc c0 [0]))
    (.block (Code.id0 (pc c0 [1])) (.loop (.seq
      (.seq (reg [⟨some m, .move (.tmp is), none⟩, ⟨some (m + 1), .move (.tmp ls), none⟩, ⟨some (m + 2), .binOp .lss G.i32 (.tmp m) (.tmp (m + 1)) G.i32, none⟩] (pc c0 [1, 0, 0, 0, 0])) (.cond (.tmp (m + 2)) .skip (.exit (Code.id0 (pc c0 [1])))))
      (.seq (.block (Code.id0 (pc c0 [1, 0, 0, 1, 0])) (body (pc c0 [1, 0, 0, 1, 0, 0])))
        (reg [⟨some (m + 3), .move (.tmp is), none⟩, ⟨some (m + 4), .binOp .add G.i32 (.tmp (m + 3)) (.const (.int .i32 1)) G.i32, none⟩, ⟨some is, .assign (.tmp (m + 4)), none⟩] (pc c0 [1, 0, 0, 1, 1]))))))

section
variable {X : RX} {Q : Exit → Act → World → Prop}

/-- The things that have been read into the list's block. -/
def Els (D : Nat) (em : M) (sz A base : Nat) (w : World) (vs : List Val) : Prop :=
  ∃ f : Nat → Nat × Nat, ∀ j v, vs[j]? = some v → base ≤ (f j).1 ∧ (f j).2 ≤ w.heap.size ∧ Holds D em w (f j).1 (f j).2 A (j * sz) v

theorem loop_wp {em : M} {sz n A cap is ls as k m : Nat} {zs : List Value} {body : Code → Code} {c0 : Code} (hemc : em.cells ≤ sz) (hzs : zs.length = sz)
    (hbody : ∀ c a w nn bs bad i, i < n → St X a w nn bs bad → gt a as = .slice (some ⟨A, 0, none⟩) n cap → gt a is = .int .i32 (i : Nat) → Blk w A (cap * sz) → Cells w A (i * sz) zs →
      Reads X (body c) (dec em.w) (fun w' lo hi x => Holds X.D em w' lo hi A (i * sz) x) k (m + 5) A (i * sz) (i * sz + sz) a w bs bad)
    {a0 : Act} {w0 : World} {nn0 : Bool} {bs0 : List UInt8} (hst0 : St X a0 w0 nn0 bs0 false) (hls : gt a0 ls = .int .i32 (n : Nat)) (has : gt a0 as = .slice (some ⟨A, 0, none⟩) n cap)
    (hA : Blk w0 A (cap * sz)) (hcap : n ≤ cap) (hcs : ∀ i, i < n → Cells w0 A (i * sz) zs) (hAD : (X.L ≤ A ∧ A ≠ X.D)) (hAr : A ≠ X.rb) (hn32 : n ≤ 2147483647)
    (h1 : as < is) (h2 : ls < is) (h3 : is < k) (h9 : 9 < is) (hk : k ≤ X.M0) (hm : X.M0 ≤ m) (hN : m + 5 ≤ X.N)
    (good : ∀ a' w' vs bs' nn', listDec (dec em.w) n bs0 = some (vs, bs') → Ag (Ch X.M0 is m) a0 a' → Only (fun j => j = X.rb ∨ j = A) w0 w' → St X a' w' nn' bs' false → Els X.D em sz A w0.heap.size w' vs → Q .normal a' w')
    (fail : ∀ a' w', listDec (dec em.w) n bs0 = none → Ag (Ch X.M0 is m) a0 a' → Only (fun j => j = X.rb ∨ j = A) w0 w' → St X a' w' false [] true → Q .normal a' w')
    (ret : ∀ a' w', listDec (dec em.w) n bs0 = none → a'.defers = [] → IsErr true (gt a' 6) → Only (fun j => j = X.rb ∨ j = A) w0 w' → Q .ret a' w') :
    (gFor X.G is ls m body c0).wp X.P Q a0 w0 := by
  have hrb := hst0.rb_gt
  have hAl : A < w0.heap.size := hA.lt
  have hsz0 := hst0.size
  refine wp_seq (wp_reg (wpC_val (runs_assign _) (wpC_nil ?_)))
  have zi : is < a0.tmps.size := by omega
  refine wp_block (wp_loop (fun a w => ∃ i : Nat, i ≤ n ∧ gt a is = .int .i32 (i : Nat) ∧ Ag (Ch X.M0 is m) a0 a ∧ Only (fun j => j = X.rb ∨ j = A) w0 w ∧ Blk w A (cap * sz) ∧ (∀ i', i ≤ i' → i' < n → Cells w A (i' * sz) zs) ∧
    ((∃ vs bs nn, listDec (dec em.w) i bs0 = some (vs, bs) ∧ St X a w nn bs false ∧ Els X.D em sz A w0.heap.size w vs) ∨ (listDec (dec em.w) n bs0 = none ∧ St X a w false [] true)))
    (fun a _ => n - (intOf (gt a is)).toNat) ?_ ?_)
  · have g := (Ag.refl (Ch X.M0 is m) a0).put (d := is) (by unfold Ch; omega) zi (a0.eval (.const (.int .i32 0)))
    refine ⟨0, Nat.zero_le _, by rw [gt_put zi, if_pos rfl]; rfl, g, Only.refl _ _, hA, fun i' _ h => hcs i' h, .inl ⟨[], bs0, nn0, rfl, ?_, fun _ => (0, 0), fun j v hv => by simp at hv⟩⟩
    exact hst0.act g h9 (by omega) (by omega)
  · rintro a w ⟨i, hin, hgi, hag, honly, hblk, hzc, hcase⟩
    have hsz : a.tmps.size = X.N := hag.size.trans hsz0
    have hgl : gt a ls = .int .i32 (n : Nat) := (hag.keep ls (by unfold Ch; omega)).trans hls
    have hga : gt a as = .slice (some ⟨A, 0, none⟩) n cap := (hag.keep as (by unfold Ch; omega)).trans has
    have z0 : m < a.tmps.size := by omega
    refine wp_seq (wp_seq (wp_reg (wpC_val (runs_move _) (wpC_val (runs_move _) ?_))))
    rw [evT, hgi]
    have g1 := (Ag.refl (Tm m) a).put (d := m) (by unfold Tm; omega) z0 (.int .i32 (i : Nat))
    have z1 : m + 1 < (a.put (some m) (.int .i32 (i : Nat))).tmps.size := by rw [g1.size]; omega
    have e1 : (a.put (some m) (.int .i32 (i : Nat))).eval (.tmp ls) = .int .i32 (n : Nat) := by rw [evT, gt_put z0, if_neg (by omega)]; exact hgl
    rw [e1]
    have g2 := g1.put (d := m + 1) (by unfold Tm; omega) z1 (.int .i32 (n : Nat))
    have z2 : m + 2 < ((a.put (some m) (.int .i32 (i : Nat))).put (some (m + 1)) (.int .i32 (n : Nat))).tmps.size := by rw [g2.size]; omega
    refine wpC_val (runs_cmp .lss _ (.inl ⟨rfl, rfl⟩) (k := .i32) (p := (i : Nat)) (q := (n : Nat)) (by rw [evT, gt_put z1, if_neg (by omega), gt_put z0, if_pos rfl]) (by rw [evT, gt_put z1, if_pos rfl])) (wpC_nil ?_)
    have g3 := g2.put (d := m + 2) (by unfold Tm; omega) z2 (.bool (decide (((i : Nat) : Int) < ((n : Nat) : Int))))
    have e3 : gt (((a.put (some m) (.int .i32 (i : Nat))).put (some (m + 1)) (.int .i32 (n : Nat))).put (some (m + 2)) (.bool (decide (((i : Nat) : Int) < ((n : Nat) : Int))))) (m + 2) = .bool (decide (((i : Nat) : Int) < ((n : Nat) : Int))) := by rw [gt_put z2, if_pos rfl]
    generalize ((a.put (some m) (.int .i32 (i : Nat))).put (some (m + 1)) (.int .i32 (n : Nat))).put (some (m + 2)) (.bool (decide (((i : Nat) : Int) < ((n : Nat) : Int)))) = a1 at g3 e3
    have hag1 : Ag (Ch X.M0 is m) a0 a1 := hag.trans (g3.tm (Nat.le_refl _))
    have st1 : ∀ {w nn bs bad}, St X a w nn bs bad → St X a1 w nn bs bad := fun h => h.act (k := is) (m := m) (g3.tm (Nat.le_refl _)) h9 (by omega) (by omega)
    have gi1 : gt a1 is = .int .i32 (i : Nat) := (g3.keep is (by unfold Tm; omega)).trans hgi
    have ga1 : gt a1 as = .slice (some ⟨A, 0, none⟩) n cap := (g3.keep as (by unfold Tm; omega)).trans hga
    refine wp_cond (t := decide (((i : Nat) : Int) < ((n : Nat) : Int))) e3 ?_
    by_cases hlt : i < n
    · rw [if_pos (by simp; omega)]
      refine wp_skip (wp_seq (wp_block ?_))
      -- the things' own code
      have post : ∀ (a2 : Act) (w2 : World), Ag (Ch X.M0 k (m + 5)) a1 a2 → Only (fun j => j = X.rb ∨ j = A) w w2 → Upd A (i * sz) (i * sz + sz) w w2 →
          ((∃ vs bs nn, listDec (dec em.w) (i + 1) bs0 = some (vs, bs) ∧ St X a2 w2 nn bs false ∧ Els X.D em sz A w0.heap.size w2 vs) ∨ (listDec (dec em.w) n bs0 = none ∧ St X a2 w2 false [] true)) →
          (reg [⟨some (m + 3), .move (.tmp is), none⟩, ⟨some (m + 4), .binOp .add X.G.i32 (.tmp (m + 3)) (.const (.int .i32 1)) X.G.i32, none⟩, ⟨some is, .assign (.tmp (m + 4)), none⟩] (pc c0 [1, 0, 0, 1, 1])).wp X.P
            (Exit.then (fun a' w' => (∃ i : Nat, i ≤ n ∧ gt a' is = .int .i32 (i : Nat) ∧ Ag (Ch X.M0 is m) a0 a' ∧ Only (fun j => j = X.rb ∨ j = A) w0 w' ∧ Blk w' A (cap * sz) ∧ (∀ i', i ≤ i' → i' < n → Cells w' A (i' * sz) zs) ∧
              ((∃ vs bs nn, listDec (dec em.w) i bs0 = some (vs, bs) ∧ St X a' w' nn bs false ∧ Els X.D em sz A w0.heap.size w' vs) ∨ (listDec (dec em.w) n bs0 = none ∧ St X a' w' false [] true))) ∧ n - (intOf (gt a' is)).toNat < n - (intOf (Value.int .i32 (i : Nat))).toNat) (Exit.inBlock (Code.id0 (pc c0 [1])) Q)) a2 w2 := by
        intro a2 w2 hag2 honly2 hupd2 hc2
        have hsz2 : a2.tmps.size = X.N := by rw [hag2.size, g3.size, hsz]
        have gi2 : gt a2 is = .int .i32 (i : Nat) := (hag2.keep is (by unfold Ch; omega)).trans gi1
        have y0 : m + 3 < a2.tmps.size := by omega
        refine wp_reg (wpC_val (runs_move _) ?_)
        rw [evT, gi2]
        have k1 := (Ag.refl (Ch X.M0 is m) a2).put (d := m + 3) (by unfold Ch; omega) y0 (.int .i32 (i : Nat))
        have y1 : m + 4 < (a2.put (some (m + 3)) (.int .i32 (i : Nat))).tmps.size := by rw [k1.size]; omega
        refine wpC_val (runs_add (k := .i32) (p := (i : Nat)) (q := 1) (by rw [evT, gt_put y0, if_pos rfl]) rfl) ?_
        have ew : IntKind.i32.wrap ((i : Nat) + 1) = ((i + 1 : Nat) : Int) := by rw [IntWalk.i32_in _ (by omega)]; omega
        rw [ew]
        have k2 := k1.put (d := m + 4) (by unfold Ch; omega) y1 (.int .i32 ((i + 1 : Nat) : Int))
        have y2 : is < ((a2.put (some (m + 3)) (.int .i32 (i : Nat))).put (some (m + 4)) (.int .i32 ((i + 1 : Nat) : Int))).tmps.size := by rw [k2.size]; omega
        have e2 : ((a2.put (some (m + 3)) (.int .i32 (i : Nat))).put (some (m + 4)) (.int .i32 ((i + 1 : Nat) : Int))).eval (.tmp (m + 4)) = .int .i32 ((i + 1 : Nat) : Int) := by rw [evT, gt_put y1, if_pos rfl]
        refine wpC_val (runs_assign _) (wpC_nil ?_)
        rw [e2]
        have k3 := k2.put (d := is) (by unfold Ch; omega) y2 (.int .i32 ((i + 1 : Nat) : Int))
        have e3 : gt (((a2.put (some (m + 3)) (.int .i32 (i : Nat))).put (some (m + 4)) (.int .i32 ((i + 1 : Nat) : Int))).put (some is) (.int .i32 ((i + 1 : Nat) : Int))) is = .int .i32 ((i + 1 : Nat) : Int) := by rw [gt_put y2, if_pos rfl]
        generalize ((a2.put (some (m + 3)) (.int .i32 (i : Nat))).put (some (m + 4)) (.int .i32 ((i + 1 : Nat) : Int))).put (some is) (.int .i32 ((i + 1 : Nat) : Int)) = a3 at k3 e3
        refine ⟨⟨i + 1, hlt, e3, (hag1.trans (hag2.ch (by omega) (by omega))).trans k3, honly.trans honly2, hupd2.blk hblk, fun i' p q => ?_, ?_⟩, ?_⟩
        · refine (hzc i' (by omega) q).keep (n := sz) (by omega) fun j hj => hupd2.cell hblk (.inr ?_)
          have : (i + 1) * sz ≤ i' * sz := Nat.mul_le_mul_right _ p
          rw [Nat.add_mul, Nat.one_mul] at this
          omega
        · rcases hc2 with ⟨vs, bs, nn, q1, q2, q3⟩ | ⟨q1, q2⟩
          · exact .inl ⟨vs, bs, nn, q1, q2.act k3 h9 (by omega) (by omega), q3⟩
          · exact .inr ⟨q1, q2.act k3 h9 (by omega) (by omega)⟩
        · rw [e3]; simp [intOf]; omega
      rcases hcase with ⟨vs, bs, nn, hd, hst, hels⟩ | ⟨hd, hst⟩
      · refine hbody _ a1 w nn bs false i hlt (st1 hst) ga1 gi1 hblk (hzc i (Nat.le_refl _) hlt) _ ⟨?_, ?_, ?_⟩
        · intro a2 w2 x bs2 nn2 _ hx hag2 honly2 hupd2 hst2 hH
          refine post a2 w2 hag2 honly2 hupd2 (.inl ⟨vs ++ [x], bs2, nn2, ?_, hst2, ?_⟩)
          · rw [listDec_snoc, hd]; simp only; rw [hx]
          · obtain ⟨f, hf⟩ := hels
            have hvl : vs.length = i := listDec_length _ _ _ _ _ hd
            refine ⟨fun j => if j = i then (w.heap.size, w2.heap.size) else f j, fun j v hv => ?_⟩
            by_cases hj : j = i
            · subst hj
              dsimp only
              rw [if_pos rfl]
              rw [List.getElem?_append_right (by omega), hvl, Nat.sub_self] at hv
              simp at hv
              subst hv
              exact ⟨honly.size, Nat.le_refl _, hH⟩
            · dsimp only
              rw [if_neg hj]
              have hjl : j < vs.length := by
                have := (List.getElem?_eq_some_iff.1 hv).1
                simp at this; omega
              rw [List.getElem?_append_left hjl] at hv
              obtain ⟨b1, b2, b3⟩ := hf j v hv
              have hrl : X.rb < w0.heap.size := hst0.st.lt
              refine ⟨b1, Nat.le_trans b2 honly2.size, b3.keep (honly2.block X.D (by have := honly.size; omega) (by omega)) (fun q q1 q2 => honly2.block q (by omega) (by omega)) fun c hc => hupd2.cell hblk (.inl ?_)⟩
              have : (j + 1) * sz ≤ i * sz := Nat.mul_le_mul_right _ (by omega)
              rw [Nat.add_mul, Nat.one_mul] at this
              omega
        · intro a2 w2 hx hag2 honly2 hupd2 hst2
          refine post a2 w2 hag2 honly2 hupd2 (.inr ⟨listDec_none _ (i := i + 1) ?_ hlt, hst2⟩)
          rw [listDec_snoc, hd]
          rcases hx with hx | hx
          · cases hx
          · simp only; rw [hx]
        · intro a2 w2 hx hdf he honly2 hupd2
          refine ret a2 w2 (listDec_none _ (i := i + 1) ?_ hlt) hdf he (honly.trans honly2)
          rw [listDec_snoc, hd]
          rcases hx with hx | hx
          · cases hx
          · simp only; rw [hx]
      · refine hbody _ a1 w false [] true i hlt (st1 hst) ga1 gi1 hblk (hzc i (Nat.le_refl _) hlt) _ ⟨?_, ?_, ?_⟩
        · intro a2 w2 x bs2 nn2 hb; cases hb
        · intro a2 w2 hx hag2 honly2 hupd2 hst2
          exact post a2 w2 hag2 honly2 hupd2 (.inr ⟨hd, hst2⟩)
        · intro a2 w2 hx hdf he honly2 hupd2
          exact ret a2 w2 hd hdf he (honly.trans honly2)
    · obtain rfl : i = n := by omega
      rw [if_neg (by simp)]
      refine wp_exit ?_
      show (if Code.id0 (pc c0 [1]) = Code.id0 (pc c0 [1]) then Q .normal a1 w else Q (.exit _) a1 w)
      rw [if_pos rfl]
      rcases hcase with ⟨vs, bs, nn, hd, hst, hels⟩ | ⟨hd, hst⟩
      · exact good a1 w vs bs nn hd hag1 honly (st1 hst) hels
      · exact fail a1 w hd hag1 honly (st1 hst)
end
end Go.Proofs.YtfimokbgggimmaaDoor.Kf
