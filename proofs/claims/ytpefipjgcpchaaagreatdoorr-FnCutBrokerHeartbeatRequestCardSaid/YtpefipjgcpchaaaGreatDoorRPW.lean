/- Reading: the code of a list with something behind it that stands in no bracket of its own. -/
import Derived.Test.YtpefipjgcpchaaaGreatDoorRReadI
import Derived.Test.YtpefipjgcpchaaaGreatDoorRKbA
import Derived.Test.YtpefipjgcpchaaaGreatDoorRTagA
import Derived.Test.YtpefipjgcpchaaaGreatDoorRAgA
import Derived.Test.YtpefipjgcpchaaaGreatDoorRAppI
import Derived.Test.YtpefipjgcpchaaaGreatDoorRKbG
import Derived.ScopeJumps
import Derived.Orders
import Derived.WalkSpells
import Derived.Test.YtpefipjgcpchaaaGreatDoorRPD
import Derived.Test.YtpefipjgcpchaaaGreatDoorRLawA
namespace Go.Proofs.YtpefipjgcpchaaaGreatDoorR.Kf
set_option linter.unusedVariables false
set_option linter.unusedSimpArgs false
open Go Go.RowKit

def gArrT (G : Gn) (T i TS : Nat) (l : Fl) (nl : Option Int) (s k m bt : Nat) (body tail : Code → Code) (c : Code) : Code :=
  .seq (gLoad T i TS s k m (pc c [0]))
  (.seq (gCopy k (k + 1) (m + 4) (pc c [1, 0]))
  (.seq (gConst (k + 2) (.int .i32 0) (pc c [1, 1, 0]))
  (.seq (gLen G (k + 2) (m + 5) l (pc c [1, 1, 1, 0]))
  (gNull G TS (k + 2) (k + 1) (m + 5 + l.t) nl (fun c =>
    .seq (gOk G (m + 5 + l.t + nullT nl) (pc c [0]))
    (.seq (reg [⟨some (m + 5 + l.t + nullT nl + 3), .move (.tmp (k + 1)), none⟩, ⟨some (m + 5 + l.t + nullT nl + 4), .slice TS (.tmp (m + 5 + l.t + nullT nl + 3)) none (some (.const (.int .i64 0))) none, none⟩, ⟨some (k + 1), .assign (.tmp (m + 5 + l.t + nullT nl + 4)), none⟩] (pc c [1, 0]))
    (.seq (gGrow G TS (k + 2) (k + 1) (m + 5 + l.t + nullT nl + 5) (pc c [1, 1, 0]))
    (.seq (gFor G (k + 3) (k + 2) (m + 5 + l.t + nullT nl + 10) body (pc c [1, 1, 1, 0]))
    (.seq (gCopy (k + 1) k (m + 5 + l.t + nullT nl + 15 + bt) (pc c [1, 1, 1, 1, 0]))
    (.seq (sinkF T i TS s k (m + 5 + l.t + nullT nl + 15 + bt + 1) (pc c [1, 1, 1, 1, 1, 0])) (tail (pc c [1, 1, 1, 1, 1, 1])))))))) (pc c [1, 1, 1, 1])))))

section
variable {X : RX} {Q : Exit → Act → World → Prop}

theorem arrT_reads (hX : XOk X) {T i o u TS sz eb s k m bt b off N : Nat} {zs : List Value} {l : Fl} {nl : Option Int} {em : M} {body tail : Code → Code} {c0 : Code} {a : Act} {w : World} {nn : Bool} {bs : List UInt8} {bad : Bool}
    (hl : l.ok X.P X.fx) (hst : St X a w nn bs bad) (hs : gt a s = .pointer (some ⟨b, off, none⟩)) (hf : FieldAt X.P T i o TS 1) (hS : Sl X.P TS sz eb zs) (heb : eb ≤ 2048) (hem : em.cells ≤ sz)
    (hb : Blk w b N) (hn : off + o + 1 ≤ N) (hnil : w.cell? ⟨b, off + o, none⟩ = some (.slice none 0 0)) (hbr : b ≠ X.rb) (hbD : (X.L ≤ b ∧ b ≠ X.D))
    (h9 : 9 ≤ X.b9 ∧ X.b9 < k) (hsk : s < k) (hk : k + 4 ≤ X.M0) (hm : X.M0 ≤ m) (hN : m + arrT l nl bt ≤ X.N)
    (hbody : ∀ A cap n, (X.L ≤ A ∧ A ≠ X.D) → A ≠ X.rb → ∀ c a w nn bs bad i, i < n → St X a w nn bs bad → gt a (k + 1) = .slice (some ⟨A, 0, none⟩) n cap → gt a (k + 3) = .int .i32 (i : Nat) → n ≤ cap → Blk w A (cap * sz) → Cells w A (i * sz) zs →
      Reads X (body c) (dec em.w) (fun w' lo hi x => Holds X.D em w' lo hi A (i * sz) x) (k + 4) (m + 5 + l.t + nullT nl + 10 + 5) A (i * sz) (i * sz + sz) a w bs bad) :
    ∀ Q, RQ X (dec (M.arr (l.c X.flex) nl.isSome (nullR X.ver nl) sz em).w) (fun w' lo hi x => Holds X.D (M.arr (l.c X.flex) nl.isSome (nullR X.ver nl) sz em) w' lo hi b (off + o) x) k m b (off + o) (off + o + 1) a w bs bad (tq X.P (some tail) Q) → (gArrT X.G T i TS l nl s k m bt body tail c0).wp X.P Q a w := by
  intro Q hQ
  have hrb := hst.rb_gt
  have hrl := hst.st.lt
  have hbl := hb.lt
  have hsz := hst.size
  have hM := hX.N0
  unfold arrT at hN
  refine wp_seq (gLoad_wp hs hf hS.one hnil (by omega) (by omega) fun a1 g1 v1 => ?_)
  have f1 : Ag (Ch X.M0 k m) a a1 := g1.mono fun j hj => by unfold Ch; omega
  refine wp_seq (gCopy_wp (by rw [f1.size]; omega) (by rw [f1.size]; omega) fun a2 g2 v2 => ?_)
  have f2 : Ag (Ch X.M0 k m) a a2 := f1.trans (g2.mono fun j hj => by unfold Ch; omega)
  rw [v1] at v2
  refine wp_seq (gConst_wp (by rw [f2.size]; omega) fun a3 g3 v3 => ?_)
  have f3 : Ag (Ch X.M0 k m) a a3 := f2.trans (g3.mono fun j hj => by unfold Ch; omega)
  have w3 : gt a3 (k + 1) = .slice none 0 0 := (g3.keep (k + 1) (by omega)).trans v2
  have st3 := hst.act f3 h9 (by omega) (by omega)
  refine wp_seq (gLen_wp l hl st3 (by omega) (by omega) (by omega) (by omega) fun a4 w4 r g4 => ?_)
  have f4 : Ag (Ch X.M0 k m) a a4 := f3.trans (g4.ag.ch (by omega) (by omega))
  have v4 : gt a4 (k + 1) = .slice none 0 0 := (g4.ag.keep (k + 1) (by unfold Ch; omega)).trans w3
  have ver4 : gt a4 8 = .int .i16 X.ver := (f4.keep 8 (by unfold Ch; omega)).trans hst.ver
  -- behind the test on null
  have rest : ∀ c a5 w5 p, Ag (Ch X.M0 k m) a a5 → Only (· = X.rb) w w5 → gt a5 (k + 1) = .slice p 0 0 → gt a5 (k + 2) = .int .i32 r →
      ((p = none ∧ nullB X.ver r nl = false) ∨ ∃ A, p = some ⟨A, 0, none⟩ ∧ w.heap.size ≤ A ∧ A < w5.heap.size ∧ nullB X.ver r nl = true) →
      ((bad = false ∧ ∃ bs' nn', lenDec (l.c X.flex) bs = some (r, bs') ∧ r ≤ bs'.length ∧ bs'.length ≤ bs.length ∧ St X a5 w5 nn' bs' false) ∨ ((bad = true ∨ lenDec (l.c X.flex) bs = none) ∧ St X a5 w5 false [] true)) →
      (Code.seq (gOk X.G (m + 5 + l.t + nullT nl) (pc c [0]))
        (.seq (reg [⟨some (m + 5 + l.t + nullT nl + 3), .move (.tmp (k + 1)), none⟩, ⟨some (m + 5 + l.t + nullT nl + 4), .slice TS (.tmp (m + 5 + l.t + nullT nl + 3)) none (some (.const (.int .i64 0))) none, none⟩, ⟨some (k + 1), .assign (.tmp (m + 5 + l.t + nullT nl + 4)), none⟩] (pc c [1, 0]))
        (.seq (gGrow X.G TS (k + 2) (k + 1) (m + 5 + l.t + nullT nl + 5) (pc c [1, 1, 0]))
        (.seq (gFor X.G (k + 3) (k + 2) (m + 5 + l.t + nullT nl + 10) body (pc c [1, 1, 1, 0]))
        (.seq (gCopy (k + 1) k (m + 5 + l.t + nullT nl + 15 + bt) (pc c [1, 1, 1, 1, 0]))
        (.seq (sinkF T i TS s k (m + 5 + l.t + nullT nl + 15 + bt + 1) (pc c [1, 1, 1, 1, 1, 0])) (tail (pc c [1, 1, 1, 1, 1, 1])))))))).wp X.P Q a5 w5 := by
    intro c a5 w5 p f5 o5 p5 r5 hp hc
    have hfail : ∀ {a' : Act} {w' : World} (_ : bad = true ∨ lenDec (l.c X.flex) bs = none) (_ : a'.defers = []) (_ : IsErr true (gt a' 6)) (_ : Only (· = X.rb) w w'), Q .ret a' w' := fun {a'} {w'} h1 h2 h3 h4 =>
      hQ.ret a' w' (h1.imp id fun h => by simp only [M.w, dec, h]) h2 h3 (h4.mono fun _ _ h => .inl h) (Upd.same (h4.block b hbl hbr))
    rcases hc with ⟨hbad, bs', nn', hd, hr1, hr2, st5⟩ | ⟨hbad, st5⟩
    case inr =>
      exact wp_seq (gOk_wp hX st5 (by omega) (by omega) (fun h => by cases h) fun _ a6 w6 hdf he ho => hfail hbad hdf he (o5.trans (ho.none _)))
    refine wp_seq (gOk_wp hX st5 (by omega) (by omega) (fun _ a6 w6 g6 o6 => ?_) fun h => by cases h)
    have f6 : Ag (Ch X.M0 k m) a a6 := f5.trans (g6.mono fun j hj => by unfold Ch; omega)
    have p6 : gt a6 (k + 1) = .slice p 0 0 := (g6.keep _ (by omega)).trans p5
    have r6 : gt a6 (k + 2) = .int .i32 r := (g6.keep _ (by omega)).trans r5
    have st6 := (st5.none o6).act (k := k) (m := m) (g6.mono fun j hj => by unfold Ch; omega) h9 (by omega) (by omega)
    have o6' : Only (· = X.rb) w w6 := o5.trans (o6.none _)
    -- a[:0]
    refine wp_seq (wp_reg (wpC_val (runs_move _) ?_))
    rw [evT, p6]
    have z1 : m + 5 + l.t + nullT nl + 3 < a6.tmps.size := by rw [f6.size]; omega
    have q1 := (Ag.refl (Ch X.M0 (k + 1) m) a6).put (d := m + 5 + l.t + nullT nl + 3) (by unfold Ch; omega) z1 (.slice p 0 0)
    have e1 : gt (a6.put (some (m + 5 + l.t + nullT nl + 3)) (.slice p 0 0)) (m + 5 + l.t + nullT nl + 3) = .slice p 0 0 := by rw [gt_put z1, if_pos rfl]
    have e1r : gt (a6.put (some (m + 5 + l.t + nullT nl + 3)) (.slice p 0 0)) (k + 2) = .int .i32 r := by rw [gt_put z1, if_neg (by omega)]; exact r6
    generalize a6.put (some (m + 5 + l.t + nullT nl + 3)) (.slice p 0 0) = b1 at q1 e1 e1r
    refine wpC_val (runs_slice0 hS e1) ?_
    have z2 : m + 5 + l.t + nullT nl + 4 < b1.tmps.size := by rw [q1.size, f6.size]; omega
    have q2 := q1.put (d := m + 5 + l.t + nullT nl + 4) (by unfold Ch; omega) z2 (.slice p 0 0)
    have e2 : gt (b1.put (some (m + 5 + l.t + nullT nl + 4)) (.slice p 0 0)) (m + 5 + l.t + nullT nl + 4) = .slice p 0 0 := by rw [gt_put z2, if_pos rfl]
    have e2r : gt (b1.put (some (m + 5 + l.t + nullT nl + 4)) (.slice p 0 0)) (k + 2) = .int .i32 r := by rw [gt_put z2, if_neg (by omega)]; exact e1r
    generalize b1.put (some (m + 5 + l.t + nullT nl + 4)) (.slice p 0 0) = b2 at q2 e2 e2r
    refine wpC_val (runs_assign _) (wpC_nil ?_)
    rw [evT, e2]
    have z3 : k + 1 < b2.tmps.size := by rw [q2.size, f6.size]; omega
    have q3 := q2.put (d := k + 1) (by unfold Ch; omega) z3 (.slice p 0 0)
    have e3 : gt (b2.put (some (k + 1)) (.slice p 0 0)) (k + 1) = .slice p 0 0 := by rw [gt_put z3, if_pos rfl]
    have e3r : gt (b2.put (some (k + 1)) (.slice p 0 0)) (k + 2) = .int .i32 r := by rw [gt_put z3, if_neg (by omega)]; exact e2r
    generalize b2.put (some (k + 1)) (.slice p 0 0) = a7 at q3 e3 e3r
    have f7 : Ag (Ch X.M0 k m) a a7 := f6.trans (q3.ch (by omega) (by omega))
    have st7 := st6.act (q3.ch (Nat.le_refl _) (Nat.le_refl _)) (by omega) (by omega) (by omega)
    have hlim : bs'.length ≤ lim := Nat.le_trans hr2 hst.lim
    -- the end: the list is stored
    have fin : ∀ (c1 c2 c3 : Code) a9 w9 v x bs9 nn9, Ag (Ch X.M0 k m) a a9 → Only (fun j => j = X.rb ∨ w.heap.size ≤ j) w w9 → gt a9 (k + 1) = v → v.cells = #[v] → v.oneCell' = true →
        dec (M.arr (l.c X.flex) nl.isSome (nullR X.ver nl) sz em).w bs = some (x, bs9) → St X a9 w9 nn9 bs9 false →
        (∀ w10, w10.heap[X.D]? = w9.heap[X.D]? → (∀ q, w.heap.size ≤ q → w10.heap[q]? = w9.heap[q]?) → w10.heap.size = w9.heap.size → LArr (Holds X.D em) nl.isSome sz w10 w.heap.size w10.heap.size [v] x) →
        (Code.seq (gCopy (k + 1) k (m + 5 + l.t + nullT nl + 15 + bt) c1) (.seq (sinkF T i TS s k (m + 5 + l.t + nullT nl + 15 + bt + 1) c2) (tail c3))).wp X.P Q a9 w9 := by
      intro c1 c2 c3 a9 w9 v x bs9 nn9 f9 o9 v9 hvc hv1 hdec st9 hH
      refine wp_seq (gCopy_wp (by rw [f9.size]; omega) (by rw [f9.size]; omega) fun a10 g10 v10 => ?_)
      have f10 : Ag (Ch X.M0 k m) a a10 := f9.trans (g10.mono fun j hj => by unfold Ch; omega)
      rw [v9] at v10
      have hb9 : w9.heap[b]? = w.heap[b]? := o9.block b hbl (by omega)
      have hcs : v.cells.toList = [v] := by rw [hvc]
      refine wp_seq (sinkF_wp (n := 1) ((f10.keep s (by unfold Ch; omega)).trans hs) v10 hf (by rw [hvc]; rfl) (by rw [hcs]; simpa using hv1) (hb.keep hb9) hn (by omega) (by omega) (by rw [f10.size]; omega) fun a11 w11 g11 wr11 => ?_)
      have f11 : Ag (Ch X.M0 k m) a a11 := f10.trans (g11.tm (by omega))
      have kb : ∀ q, q < w9.heap.size → q ≠ b → w11.heap[q]? = w9.heap[q]? := fun q q1 q2 => wr11.only.block q q1 q2
      have hle := o9.size
      have hrd9 := st9.st
      have st11 : St X a11 w11 nn9 bs9 false := by
        have h1 : St X a11 w9 nn9 bs9 false := by
          have := st9.act (k := k) (m := m) ((g10.mono fun j hj => by unfold Ch; omega : Ag (Ch X.M0 k m) a9 a10).trans (g11.tm (by omega))) h9 (by omega) (by omega)
          exact this
        exact h1.world (hrd9.keep (kb _ (by omega) (by omega)) (kb _ (by omega) (by omega))) (Nat.le_refl _) (wr11.only.mono fun q _ e => by omega)
      have oall : Only (fun j => j = X.rb ∨ j = b) w w11 := Only.fresh ((o9.mono fun q _ h => by omega).trans (wr11.only.mono fun q _ h => by omega))
      have hupd : Upd b (off + o) (off + o + 1) w w11 := by
        have := wr11.upd
        rw [hcs] at this
        intro cur e hcur
        exact this cur e (hb9.trans hcur)
      have hL := hH w11 (kb _ (by omega) (by omega)) (fun q hq => by
        by_cases hql : q < w9.heap.size
        · exact kb q hql (by omega)
        · rw [Array.getElem?_eq_none (by have := wr11.same; omega), Array.getElem?_eq_none (by omega)]) wr11.same
      refine (show ∀ c, (tail c).wp X.P Q a11 w11 from hQ.good a11 w11 x bs9 nn9 hbad hdec f11 oall hupd st11 ⟨by have := wr11.same; omega, [v], ?_, hL⟩) c3
      have := wr11.cells
      rwa [hcs] at this
    refine wp_seq (gGrow_wp hX.i32 hS heb e3r e3 (by omega) (by omega) (by omega) (by omega) (by rw [f7.size]; omega) (fun hr0 a8 g8 p8 => ?_) fun n a8 w8 cap hrn hn0 g8 p8 hcap o8 hsz8 hblk8 hcs8 => ?_)
    · -- no things
      have f8 : Ag (Ch X.M0 k m) a a8 := f7.trans (g8.mono fun j hj => by unfold Ch; omega)
      have r8 : gt a8 (k + 2) = .int .i32 r := (g8.keep _ (by omega)).trans e3r
      refine wp_seq (loop0_wp r8 hr0 (by omega) (by omega) (by rw [f8.size]; omega) fun a9 g9 => ?_)
      have f9 : Ag (Ch X.M0 k m) a a9 := f8.trans (g9.mono fun j hj => by unfold Ch; omega)
      have p9 : gt a9 (k + 1) = .slice p 0 0 := (g9.keep _ (by omega)).trans p8
      have st9 : St X a9 w6 nn' bs' false := st7.act (k := k) (m := m) ((g8.mono fun j hj => by unfold Ch; omega : Ag (Ch X.M0 k m) a7 a8).trans (g9.mono fun j hj => by unfold Ch; omega)) h9 (by omega) (by omega)
      have hto : r.toNat = 0 := by omega
      by_cases hnull : r < 0 ∧ nl.isSome = true ∧ nullR X.ver nl = true
      · refine fin _ _ _ a9 w6 (.slice p 0 0) (.list none) bs' nn' f9 (o6'.mono fun q _ h => .inl h) p9 rfl rfl ?_ st9 fun w10 _ _ _ => ?_
        · simp only [M.w, dec]
          rw [hd]; simp only; rw [if_pos hnull]
        · rcases hp with ⟨rfl, hp⟩ | ⟨A, rfl, hA1, hA2, hp⟩
          · exact .inl ⟨hnull.2.1, rfl, rfl⟩
          · exfalso
            cases nl with
            | none => simp at hnull
            | some nv =>
              simp only [nullB, nullR, Bool.or_eq_true, Bool.not_eq_true', decide_eq_false_iff_not, decide_eq_true_eq, beq_iff_eq] at hp hnull
              omega
      · refine fin _ _ _ a9 w6 (.slice p 0 0) (.list (some [])) bs' nn' f9 (o6'.mono fun q _ h => .inl h) p9 rfl rfl ?_ st9 fun w10 _ _ hs10 => ?_
        · simp only [M.w, dec]
          rw [hd]; simp only; rw [if_neg hnull, hto]; rfl
        · rcases hp with ⟨rfl, hp⟩ | ⟨A, rfl, hA1, hA2, hp⟩
          · refine .inr (.inl ⟨?_, rfl, rfl⟩)
            cases nl with
            | none => rfl
            | some nv =>
              exfalso
              simp only [nullB, nullR, Bool.or_eq_false_iff, decide_eq_false_iff_not, beq_eq_false_iff_ne, Bool.not_eq_true', Option.isSome_some, true_and] at hp hnull
              omega
          · have := o6.size
            exact .inr (.inr ⟨[], A, 0, rfl, rfl, hA1, by omega, fun _ => (0, 0), fun j v hv => by simp at hv⟩)
    · -- some things
      have f8 : Ag (Ch X.M0 k m) a a8 := f7.trans (g8.mono fun j hj => by unfold Ch; omega)
      have r8 : gt a8 (k + 2) = .int .i32 (n : Nat) := by rw [← hrn]; exact (g8.keep _ (by omega)).trans e3r
      have st8 : St X a8 w8 nn' bs' false := (st7.act (k := k) (m := m) (g8.mono fun j hj => by unfold Ch; omega) h9 (by omega) (by omega)).none o8
      have hle6 := o6'.size
      have hn31 := lenDec_le hd
      have hsd : ∀ x, listDec (dec em.w) n bs' = x → dec (M.arr (l.c X.flex) nl.isSome (nullR X.ver nl) sz em).w bs = x.map fun y => (.list (some y.1), y.2) := by
        intro x hx
        simp only [M.w, dec]
        rw [hd]; simp only
        rw [if_neg (by omega), hrn, Int.toNat_natCast, hx]
        cases x <;> rfl
      have o68 : Only (fun j => j = X.rb ∨ w.heap.size ≤ j) w w8 := (o6'.mono fun q _ h => .inl h).trans (o8.none _)
      refine wp_seq (loop_wp (k := k + 4) (zs := zs) hem hS.len (fun c a w nn bs bad i hi hst1 h1 h2 hB hC => hbody w6.heap.size cap n (by omega) (by omega) c a w nn bs bad i hi hst1 h1 h2 hcap hB hC) st8 r8 p8 hblk8 hcap hcs8 (by omega) (by omega) (by omega)
        (by omega) (by omega) (by omega) (by omega) (by omega) (by omega) (by omega) ?_ ?_ ?_)
      · intro a9 w9 vs bs9 nn9 hd9 g9 o9 st9 hels
        have f9 : Ag (Ch X.M0 k m) a a9 := f8.trans (g9.ch (by omega) (by omega))
        have hvl := listDec_length _ _ _ _ _ hd9
        refine fin _ _ _ a9 w9 (.slice (some ⟨w6.heap.size, 0, none⟩) n cap) (.list (some vs)) bs9 nn9 f9 (o68.trans (o9.mono fun q _ h => by omega)) ((g9.keep _ (by unfold Ch; omega)).trans p8) rfl rfl (by rw [hsd _ hd9]; rfl) st9 fun w10 hD10 hk10 hs10 => ?_
        obtain ⟨fe, hfe⟩ := hels
        have hle9 := o9.size
        refine .inr (.inr ⟨vs, w6.heap.size, cap, rfl, by rw [hvl], by omega, by omega, fe, fun j v hv => ?_⟩)
        obtain ⟨b1, b2, b3⟩ := hfe j v hv
        exact ⟨by omega, by omega, b3.keep hD10 (fun q q1 q2 => hk10 q (by omega)) fun _ _ => World.cell?_of_block (w := w9) (hk10 _ hle6)⟩
      · intro a9 w9 hd9 g9 o9 st9
        have f9 : Ag (Ch X.M0 k m) a a9 := f8.trans (g9.ch (by omega) (by omega))
        -- the reader has failed: what is stored does not matter
        refine wp_seq (gCopy_wp (by rw [f9.size]; omega) (by rw [f9.size]; omega) fun a10 g10 v10 => ?_)
        have f10 : Ag (Ch X.M0 k m) a a10 := f9.trans (g10.mono fun j hj => by unfold Ch; omega)
        have v9 : gt a9 (k + 1) = .slice (some ⟨w6.heap.size, 0, none⟩) n cap := (g9.keep _ (by unfold Ch; omega)).trans p8
        rw [v9] at v10
        have o9' : Only (fun j => j = X.rb ∨ w.heap.size ≤ j) w w9 := o68.trans (o9.mono fun q _ h => by omega)
        have hb9 : w9.heap[b]? = w.heap[b]? := o9'.block b hbl (by omega)
        refine wp_seq (sinkF_wp (n := 1) ((f10.keep s (by unfold Ch; omega)).trans hs) v10 hf rfl (by simp [Value.cells, Value.oneCell']) (hb.keep hb9) hn (by omega) (by omega) (by rw [f10.size]; omega) fun a11 w11 g11 wr11 => ?_)
        have f11 : Ag (Ch X.M0 k m) a a11 := f10.trans (g11.tm (by omega))
        have kb : ∀ q, q < w9.heap.size → q ≠ b → w11.heap[q]? = w9.heap[q]? := fun q q1 q2 => wr11.only.block q q1 q2
        have hle := o9'.size
        refine (show ∀ c, (tail c).wp X.P Q a11 w11 from hQ.fail a11 w11 (.inr (by rw [hsd _ hd9]; rfl)) f11 (Only.fresh ((o9'.mono fun q _ h => by omega).trans (wr11.only.mono fun q _ h => by omega))) ?_ ?_) _
        · have := wr11.upd
          intro cur e hcur
          exact this cur e (hb9.trans hcur)
        · have h1 : St X a11 w9 false [] true := st9.act (k := k) (m := m) ((g10.mono fun j hj => by unfold Ch; omega : Ag (Ch X.M0 k m) a9 a10).trans (g11.tm (by omega))) h9 (by omega) (by omega)
          exact h1.world (st9.st.keep (kb _ (by omega) (by omega)) (kb _ (by omega) (by omega))) (Nat.le_refl _) (wr11.only.mono fun q _ e => by omega)
      · intro a9 w9 hd9 hdf he o9
        have o9' : Only (fun j => j = X.rb ∨ w.heap.size ≤ j) w w9 := o68.trans (o9.mono fun q _ h => by omega)
        exact hQ.ret a9 w9 (.inr (by rw [hsd _ hd9]; rfl)) hdf he (Only.fresh (o9'.mono fun q _ h => by omega)) (Upd.same (o9'.block b hbl (by omega)))
  have hlen4 := g4.only.size
  refine gNull_wp hS ver4 g4.val (by omega) (by omega) (by omega) (by rw [f4.size]; omega) (fun hB c a5 e g5 p5 => ?_) fun hB c a5 g5 => ?_
  · have f45 : Ag (Ch X.M0 k m) a4 a5 := g5.mono fun j hj => by unfold Ch; omega
    have oal : Only (fun _ => False) w4 (w4.alloc (.cells #[] e)) := ⟨rfl, rfl, rfl, by simp, fun q hq _ => Below.heap_alloc w4 _ q hq⟩
    refine rest c a5 _ _ (f4.trans f45) (g4.only.trans (oal.none _)) p5 ((g5.keep _ (by omega)).trans g4.val) (.inr ⟨_, rfl, hlen4, by simp, hB⟩) ?_
    rcases g4.comes with ⟨hbad, bs', hd, h1, h2, nn', hr⟩ | ⟨hbad, hr⟩
    · exact .inl ⟨hbad, bs', nn', hd, h1, h2, ((hst.act (f4.trans f45) h9 (by omega) (by omega)).world hr h2 (g4.only.mono fun q _ e => by omega)).none oal⟩
    · exact .inr ⟨hbad, ((hst.act (f4.trans f45) h9 (by omega) (by omega)).world hr (by simp) (g4.only.mono fun q _ e => by omega)).none oal⟩
  · have f45 : Ag (Ch X.M0 k m) a4 a5 := g5.mono fun j hj => by unfold Ch; omega
    refine rest c a5 _ none (f4.trans f45) g4.only ((g5.keep _ (by omega)).trans v4) ((g5.keep _ (by omega)).trans g4.val) (.inl ⟨rfl, hB⟩) ?_
    rcases g4.comes with ⟨hbad, bs', hd, h1, h2, nn', hr⟩ | ⟨hbad, hr⟩
    · exact .inl ⟨hbad, bs', nn', hd, h1, h2, (hst.act (f4.trans f45) h9 (by omega) (by omega)).world hr h2 (g4.only.mono fun q _ e => by omega)⟩
    · exact .inr ⟨hbad, (hst.act (f4.trans f45) h9 (by omega) (by omega)).world hr (by simp) (g4.only.mono fun q _ e => by omega)⟩

/-- A list whose length cannot be read: an error, whatever lay there. -/
theorem arrT_bad (hX : XOk X) {T i o TS sz eb s k m bt b off N : Nat} {zs : List Value} {l : Fl} {nl : Option Int} {body tail : Code → Code} {c0 : Code} {a : Act} {w : World} {nn : Bool} {bs : List UInt8} {bad : Bool} {v0 : Value}
    (hl : l.ok X.P X.fx) (hst : St X a w nn bs bad) (hs : gt a s = .pointer (some ⟨b, off, none⟩)) (hf : FieldAt X.P T i o TS 1) (hS : Sl X.P TS sz eb zs) (hv0 : w.cell? ⟨b, off + o, none⟩ = some v0)
    (h9 : 9 ≤ X.b9 ∧ X.b9 < k) (hsk : s < k) (hk : k + 4 ≤ X.M0) (hm : X.M0 ≤ m) (hN : m + arrT l nl bt ≤ X.N) (hno : bad = true ∨ lenDec (l.c X.flex) bs = none)
    (hQ : ∀ a' w', a'.defers = [] → IsErr true (gt a' 6) → Only (fun j => j = X.rb) w w' → Q .ret a' w') : (gArrT X.G T i TS l nl s k m bt body tail c0).wp X.P Q a w := by
  have hrb := hst.rb_gt
  have hsz := hst.size
  have hM := hX.N0
  unfold arrT at hN
  refine wp_seq (gLoad_wp hs hf hS.one hv0 (by omega) (by omega) fun a1 g1 v1 => ?_)
  have f1 : Ag (Ch X.M0 k m) a a1 := g1.mono fun j hj => by unfold Ch; omega
  refine wp_seq (gCopy_wp (by rw [f1.size]; omega) (by rw [f1.size]; omega) fun a2 g2 v2 => ?_)
  have f2 : Ag (Ch X.M0 k m) a a2 := f1.trans (g2.mono fun j hj => by unfold Ch; omega)
  refine wp_seq (gConst_wp (by rw [f2.size]; omega) fun a3 g3 v3 => ?_)
  have f3 : Ag (Ch X.M0 k m) a a3 := f2.trans (g3.mono fun j hj => by unfold Ch; omega)
  have st3 := hst.act f3 h9 (by omega) (by omega)
  refine wp_seq (gLen_wp l hl st3 (by omega) (by omega) (by omega) (by omega) fun a4 w4 r g4 => ?_)
  have f4 : Ag (Ch X.M0 k m) a a4 := f3.trans (g4.ag.ch (by omega) (by omega))
  have ver4 : gt a4 8 = .int .i16 X.ver := (f4.keep 8 (by unfold Ch; omega)).trans hst.ver
  have hr4 : Rd X.D X.rb w4 false [] true := by
    rcases g4.comes with ⟨hbad, bs', hd, _⟩ | ⟨_, hr⟩
    · rcases hno with h | h
      · rw [hbad] at h; cases h
      · rw [hd] at h; cases h
    · exact hr
  refine gNull_wp hS ver4 g4.val (by omega) (by omega) (by omega) (by rw [f4.size]; omega) (fun hB c a5 e g5 p5 => ?_) fun hB c a5 g5 => ?_
  · have f45 : Ag (Ch X.M0 k m) a4 a5 := g5.mono fun j hj => by unfold Ch; omega
    have oal : Only (fun _ => False) w4 (w4.alloc (.cells #[] e)) := ⟨rfl, rfl, rfl, by simp, fun q hq _ => Below.heap_alloc w4 _ q hq⟩
    have st5 := ((hst.act (f4.trans f45) h9 (by omega) (by omega)).world hr4 (by simp) (g4.only.mono fun q _ e => by omega)).none oal
    exact wp_seq (gOk_wp hX st5 (by omega) (by omega) (fun h => by cases h) fun _ a6 w6 hdf he ho => hQ a6 w6 hdf he (g4.only.trans (oal.trans ho |>.none _)))
  · have f45 : Ag (Ch X.M0 k m) a4 a5 := g5.mono fun j hj => by unfold Ch; omega
    have st5 := (hst.act (f4.trans f45) h9 (by omega) (by omega)).world hr4 (by simp) (g4.only.mono fun q _ e => by omega)
    exact wp_seq (gOk_wp hX st5 (by omega) (by omega) (fun h => by cases h) fun _ a6 w6 hdf he ho => hQ a6 w6 hdf he (g4.only.trans (ho.none _)))
end
end Go.Proofs.YtpefipjgcpchaaaGreatDoorR.Kf

namespace Go.Proofs.YtpefipjgcpchaaaGreatDoorR.Kf
set_option linter.unusedVariables false
set_option linter.unusedSimpArgs false
open Go Go.RowKit

/-- A list's thing: a value, a part. -/
inductive El
  | v (u : Nat) (rv : RV)
  | s (D PT T : Nat) (b : R)
def El.k : El → Nat
  | .v _ rv => rv.kn
  | .s _ _ _ b => 2 + b.k
def El.t : El → Nat
  | .v _ rv => rv.t + 4
  | .s _ _ _ b => 6 + b.t
def El.code (G : Gn) (TS k m : Nat) : El → Code → Code
  | .v u rv => gRV G (k + 4) m (snkI rv.bx TS u (k + 1) (k + 3) (k + 4 + rv.dk) (m + rv.t)) rv
  | .s D PT T' b => gEl TS (k + 1) (k + 3) D PT (k + 4) m (gR G b T' (k + 5) (k + 6) (m + 6) none)
def El.m (ver : Int) (flex : Bool) : El → M
  | .v _ rv => (rv.rk flex).m
  | .s _ _ _ b => b.m ver flex
def El.ok (P : Program) (fx : Bool) (zs : List Value) : El → Prop
  | .v u rv => rv.ok P fx ∧ (∃ inf, P.info? u = some inf ∧ inf.size = zs.length) ∧ ∀ flex, (rv.rk flex).n = zs.length
  | .s D _ T' b => DefC P D zs.length (b.nils.map (·.1)) ∧ (∀ q ∈ b.nils, ∃ v, zs[q.1]? = some v ∧ isNilS q.2 v = true) ∧ b.ok P fx T' 0 zs.length
/-- A tagged list: its number, place, types, how it is read. -/
structure TG where
  key : Nat
  i : Nat
  o : Nat
  TS : Nat
  eb : Nat
  zs : List Value
  l : Fl
  nl : Option Int
  e : El
def TG.t (g : TG) : Nat := 10 + arrT g.l g.nl g.e.t
def TG.k (g : TG) : Nat := 2 + (4 + g.e.k)
def TG.m (ver : Int) (flex : Bool) (g : TG) : M := .arr (g.l.c flex) g.nl.isSome (nullR ver g.nl) g.zs.length (g.e.m ver flex)
def TG.ok (P : Program) (fx : Bool) (T : Nat) (g : TG) : Prop := g.e.ok P fx g.zs ∧ g.l.ok P fx ∧ FieldAt P T g.i g.o g.TS 1 ∧ Sl P g.TS g.zs.length g.eb g.zs ∧ g.eb ≤ 2048
/-- What the code of tags names: Uvarint, Span, Set, uint32, int, error, the tags' pointer, octets; the tags' place. -/
structure TGn where
  uv : Nat
  sp : Nat
  set : Nat
  u32 : Nat
  int : Nat
  err : Nat
  ptg : Nat
  sl : Nat
  i : Nat
def gSub (G : Gn) (Y : TGn) (k m : Nat) (c : Code) : Code := reg [⟨some m, .call ⟨.value (.func Y.uv), #[.tmp G.rs], #[G.rt]⟩, none⟩, ⟨some (m + 1), .convert Y.u32 Y.int (.tmp m), none⟩, ⟨some (m + 2), .call ⟨.value (.func Y.sp), #[.tmp G.rs, .tmp (m + 1)], #[G.rt, Y.int]⟩, none⟩,
  ⟨some (m + 3), .build G.rt #[(0, .tmp (m + 2))], none⟩, ⟨some k, .alloc G.rt, none⟩, ⟨none, .store G.rt (.tmp k) (.tmp (m + 3)), none⟩] c
def gDone (G : Gn) (Y : TGn) (b k m : Nat) (c : Code) : Code := .seq (reg [⟨some m, .call ⟨.value (.func G.co), #[.tmp b], #[G.rt]⟩, none⟩, ⟨some k, .assign (.tmp m), none⟩] (pc c [0]))
  (.seq (reg [⟨some (m + 1), .move (.tmp k), none⟩, ⟨some (m + 2), .binOp .neq Y.err (.tmp (m + 1)) (.const .nilIface) Y.err, none⟩] (pc c [1, 0]))
    (.cond (.tmp (m + 2)) (.seq (reg [⟨some (m + 3), .move (.tmp k), none⟩, ⟨some 6, .assign (.tmp (m + 3)), none⟩] (pc c [1, 1, 0, 0])) .ret) .skip))
def gCase (G : Gn) (Y : TGn) (T s k m : Nat) (g : TG) (c : Code) : Code := .seq (gSub G Y k m (pc c [0]))
  (gArrT { G with rs := k } T g.i g.TS g.l g.nl s (k + 1) (m + 4) g.e.t (g.e.code { G with rs := k } g.TS (k + 1) (m + 4 + 5 + g.l.t + nullT g.nl + 10 + 5)) (gDone G Y k (k + 1 + (4 + g.e.k)) (m + 4 + arrT g.l g.nl g.e.t)) (pc c [1]))
/-- The cases: kt: the number read, in a temporary. -/
def gCases (G : Gn) (Y : TGn) (T s kt : Nat) (dflt : Code) : List TG → (k m : Nat) → Code → Code
  | [], _, _, c => dflt
  | g :: l, k, m, c => .seq (reg [⟨some (m + 1), .binOp .eql Y.u32 (.tmp kt) (.const (.int .u32 g.key)) Y.u32, none⟩, ⟨some m, .assign (.tmp (m + 1)), none⟩] (pc c [0])) (.cond (.tmp m) (gCase G Y T s k (m + 2) g (pc c [1, 0])) (gCases G Y T s kt dflt l (k + g.k) (m + g.t) (pc c [1, 1])))
/-- A region that draws its order. -/
def regD (cs : List Core) (c0 : Code) : Code := .region (Code.id0 c0) (mkOps cs (Code.ops0 c0)).toArray true
/-- A tag that is unknown. -/
def gUnk (G : Gn) (Y : TGn) (T s k m : Nat) (c : Code) : Code := regD [⟨some m, .move (.tmp s), none⟩, ⟨some (m + 1), .nilCheck (.tmp m), none⟩, ⟨some (m + 2), .fieldAddr T (.tmp (m + 1)) Y.i, none⟩, ⟨some (m + 3), .move (.tmp k), none⟩, ⟨some (m + 4), .call ⟨.value (.func Y.uv), #[.tmp G.rs], #[G.rt]⟩, none⟩,
  ⟨some (m + 5), .convert Y.u32 Y.int (.tmp (m + 4)), none⟩, ⟨some (m + 6), .call ⟨.value (.func Y.sp), #[.tmp G.rs, .tmp (m + 5)], #[G.rt, Y.int]⟩, none⟩, ⟨some (m + 7), .call ⟨.value (.func Y.set), #[.tmp (m + 2), .tmp (m + 3), .tmp (m + 6)], #[Y.ptg, Y.u32, Y.sl]⟩, none⟩] c
/-- Where the code of an unknown tag stands behind n cases. -/
def pth : Nat → List Nat
  | 0 => []
  | n + 1 => 1 :: 1 :: pth n
/-- One tag. -/
def gTag1 (G : Gn) (Y : TGn) (T s k m : Nat) (l : List TG) (c : Code) : Code :=
  .seq (gCall G Y.uv (k + 1) (m + 6) (pc c [0])) (.seq (gMove (k + 1) (m + 7) (pc c [1, 0])) (.block (Code.id0 (pc c [1, 1])) (gCases G Y T s (m + 7) (gUnk G Y T s (k + 1) (m + 8) (pc c ([1, 1, 0] ++ pth l.length))) l (k + 2) (m + 16) (pc c [1, 1, 0]))))
/-- All tags, if the version has some. -/
def gTgL (G : Gn) (Y : TGn) (T s k m : Nat) (l : List TG) (c : Code) : Code :=
  .block (Code.id0 c) (.loop (.seq (.seq (reg [⟨some (m + 2), .move (.tmp k), none⟩, ⟨some (m + 3), .binOp .gtr Y.u32 (.tmp (m + 2)) (.const (.int .u32 0)) Y.u32, none⟩] (pc c [0, 0, 0, 0])) (.cond (.tmp (m + 3)) .skip (.exit (Code.id0 c))))
    (.seq (.block (Code.id0 (pc c [0, 0, 1, 0])) (gTag1 G Y T s k m l (pc c [0, 0, 1, 0, 0])))
      (reg [⟨some (m + 4), .move (.tmp k), none⟩, ⟨some (m + 5), .binOp .sub Y.u32 (.tmp (m + 4)) (.const (.int .u32 1)) Y.u32, none⟩, ⟨some k, .assign (.tmp (m + 5)), none⟩] (pc c [0, 0, 1, 1])))))
def gTgd (G : Gn) (Y : TGn) (T s k m : Nat) (l : List TG) (c : Code) : Code :=
  .seq (gMove 9 m (pc c [0])) (.cond (.tmp m) (.seq (gCall G Y.uv k (m + 1) (pc c [1, 0, 0])) (gTgL G Y T s k m l (pc c [1, 0, 1]))) .skip)

section
variable {X : RX} {Q : Exit → Act → World → Prop}

theorem El.cells (e : El) {P : Program} {fx flex : Bool} {ver : Int} {zs : List Value} (he : e.ok P fx zs) : (e.m ver flex).cells ≤ zs.length := by
  cases e with
  | v u rv => obtain ⟨_, _, h⟩ := he; exact Nat.le_of_eq (h flex)
  | s D PT T b => obtain ⟨_, _, h⟩ := he; exact R.cells_le h
theorem El.reads (hX : XOk X) (e : El) {TS eb k m : Nat} {zs : List Value} (hS : Sl X.P TS zs.length eb zs) (he : e.ok X.P X.fx zs) (h9 : 9 ≤ X.b9 ∧ X.b9 < k) (hk : k + (4 + e.k) ≤ X.M0) (hm : X.M0 ≤ m) (hN : m + e.t ≤ X.N) :
    ∀ A cap n, (X.L ≤ A ∧ A ≠ X.D) → A ≠ X.rb → ∀ c a w nn bs bad i, i < n → St X a w nn bs bad → gt a (k + 1) = .slice (some ⟨A, 0, none⟩) n cap → gt a (k + 3) = .int .i32 (i : Nat) → n ≤ cap → Blk w A (cap * zs.length) → Cells w A (i * zs.length) zs →
      Reads X (e.code X.G TS k m c) (dec (e.m X.ver X.flex).w) (fun w' lo hi x => Holds X.D (e.m X.ver X.flex) w' lo hi A (i * zs.length) x) (k + 4) m A (i * zs.length) (i * zs.length + zs.length) a w bs bad := by
  intro A cap n hAD hAr c3 a3 w3 nn3 bs3 bad3 i3 hi3 st3 q1 q2 q3 q4 q5
  have hle : i3 * zs.length + zs.length ≤ cap * zs.length := by
    have : (i3 + 1) * zs.length ≤ cap * zs.length := Nat.mul_le_mul_right _ (by omega)
    rwa [Nat.add_mul, Nat.one_mul] at this
  cases e with
  | v u rv =>
    obtain ⟨h2, h7, h8⟩ := he
    have hkn := rv.kn_pos
    simp only [El.k, El.t] at hk hN
    exact eVal_reads rv hS h2 st3 q1 q2 hi3 h7 (h8 _) q4 hle hAr hAD (by omega) (by omega) (by omega) (by omega) (by omega) (by omega)
  | s D PT T' b' =>
    obtain ⟨h7, h8, hb9⟩ := he
    simp only [El.k, El.t] at hk hN
    refine gEl_reads hX st3 hS q1 q2 hi3 q3 q4 hAr hAD h7 q5 h8 (by omega) (by omega) (by omega) (by omega) (by omega) (by omega) ?_
    intro c4 a4 w4 nn4 st4 p1 p2 p3 Q4 hQ4
    exact R_reads hX b' T' (k + 5) (k + 6) (m + 6) A (i3 * zs.length) (cap * zs.length) 0 zs.length none c4 a4 w4 nn4 bs3 bad3 hb9 ⟨st4, p1, p2, by omega, p3, hAr, hAD, by omega, by omega, by omega, by omega, by omega⟩ Q4 hQ4

/-! ### what a tag's octets come to -/
def uvS (bs : List UInt8) (bad : Bool) (x : Nat) (bs1 : List UInt8) (bad1 : Bool) : Prop :=
  (bad = false ∧ uvDec bs = some (x, bs1) ∧ bad1 = false) ∨ ((bad = true ∨ uvDec bs = none) ∧ x = 0 ∧ bs1 = [] ∧ bad1 = true)
theorem uvS_one {D rb : Nat} {w w' : World} {bs : List UInt8} {bad : Bool} {e : Ending} (h : UvrP D rb w bs bad e w') :
    ∃ (x : Nat) (nn1 : Bool) (bs1 : List UInt8) (bad1 : Bool), e = .returned (.int .u32 x) ∧ x < 4294967296 ∧ Only (· = rb) w w' ∧ Rd D rb w' nn1 bs1 bad1 ∧ bs1.length ≤ bs.length ∧ uvS bs bad x bs1 bad1 := by
  obtain ⟨x, he, hx, ho, h | h⟩ := h
  · obtain ⟨hb, r, hu, hl, hr⟩ := h
    exact ⟨x, true, r, false, he, hx, ho, hr, by omega, .inl ⟨hb, hu, rfl⟩⟩
  · obtain ⟨hx0, hb, hr⟩ := h
    exact ⟨x, false, [], true, he, hx, ho, hr, by simp, .inr ⟨hb, hx0, rfl, rfl⟩⟩
def spS (bs : List UInt8) (bad : Bool) (n : Nat) (s : List UInt8) (bs2 : List UInt8) (bad2 : Bool) : Prop :=
  (n ≤ bs.length ∧ s = bs.take n ∧ bs2 = bs.drop n ∧ bad2 = bad) ∨ (bs.length < n ∧ s = [] ∧ bs2 = [] ∧ bad2 = true)
theorem spS_one {D rb : Nat} {w w' : World} {bs : List UInt8} {nn bad : Bool} {n : Nat} {e : Ending} (h : SpanP D rb w nn bs bad (n : Int) e w') :
    ∃ (v : Value) (nnv : Bool) (s : List UInt8) (nn2 : Bool) (bs2 : List UInt8) (bad2 : Bool), e = .returned v ∧ Only (· = rb) w w' ∧ Rd D rb w' nn2 bs2 bad2 ∧ bs2.length ≤ bs.length ∧ s.length ≤ bs.length ∧ Sp w' D nnv v s ∧ spS bs bad n s bs2 bad2 := by
  obtain ⟨v, rfl, ho, h | h⟩ := h
  · obtain ⟨h1, h2, h3, h4⟩ := h
    rw [Int.toNat_natCast] at h3 h4
    exact ⟨v, nn, _, nn, _, bad, rfl, ho, h4, by simp, by simp; omega, h3, .inl ⟨by omega, rfl, rfl, rfl⟩⟩
  · obtain ⟨h1, rfl, h3⟩ := h
    exact ⟨_, false, [], false, [], true, rfl, ho, h3, by simp, by simp, .inl ⟨rfl, rfl, rfl⟩, .inr ⟨by omega, rfl, rfl, rfl⟩⟩
/-- A number, of octets that may end early. -/
theorem uv_pre {bs more t : List UInt8} {bad bad1 : Bool} {n x : Nat} {bs1 : List UInt8} (hn : n < 4294967296) (h : (bad = false ∧ bs ++ more = uvEnc n ++ t) ∨ (bad = true ∧ bs = [] ∧ more ≠ [])) (hu : uvS bs bad x bs1 bad1) :
    (bad = false ∧ bad1 = false ∧ x = n ∧ bs1 ++ more = t) ∨ (bad1 = true ∧ x = 0 ∧ bs1 = [] ∧ more ≠ []) := by
  rcases h with ⟨rfl, h⟩ | ⟨rfl, rfl, hm⟩
  · rcases hu with ⟨_, hu, rfl⟩ | ⟨hu, rfl, rfl, rfl⟩
    · have h1 := uvDec_ext (s := more) hu
      rw [h, uvDec_uvEnc hn] at h1
      simp at h1
      exact .inl ⟨rfl, rfl, h1.1.symm, h1.2.symm⟩
    · refine .inr ⟨rfl, rfl, rfl, fun hm => ?_⟩
      rcases hu with hu | hu
      · cases hu
      · rw [hm, List.append_nil] at h
        rw [h, uvDec_uvEnc hn] at hu
        cases hu
  · rcases hu with ⟨hu, _⟩ | ⟨hu, rfl, rfl, rfl⟩
    · cases hu
    · exact .inr ⟨rfl, rfl, rfl, hm⟩
/-- A tag's size and octets. -/
theorem sub_pre {bs more s0 t : List UInt8} {bad bad1 bad2 : Bool} {x : Nat} {bs1 s bs2 : List UInt8} (hn : s0.length < 4294967296) (h : (bad = false ∧ bs ++ more = uvEnc s0.length ++ (s0 ++ t)) ∨ (bad = true ∧ bs = [] ∧ more ≠ [])) (hu : uvS bs bad x bs1 bad1) (hs : spS bs1 bad1 x s bs2 bad2) :
    (bad = false ∧ bad2 = false ∧ s = s0 ∧ bs2 ++ more = t) ∨ (bad2 = true ∧ s = [] ∧ bs2 = [] ∧ more ≠ []) := by
  rcases uv_pre hn h hu with ⟨hbd, rfl, rfl, h1⟩ | ⟨rfl, rfl, rfl, hm⟩
  · rcases hs with ⟨k1, k2, k3, k4⟩ | ⟨k1, k2, k3, k4⟩
    · refine .inl ⟨hbd, k4, ?_, ?_⟩
      · have := congrArg (List.take s0.length) h1
        rw [List.take_append_of_le_length k1, List.take_left' rfl] at this
        rw [k2, this]
      · have := congrArg (List.drop s0.length) h1
        rw [List.drop_append_of_le_length k1, List.drop_left' rfl] at this
        rw [k3, this]
    · refine .inr ⟨k4, k2, k3, fun hm => ?_⟩
      rw [hm, List.append_nil] at h1
      rw [h1] at k1
      simp at k1
      omega
  · rcases hs with ⟨k1, k2, k3, k4⟩ | ⟨k1, k2, k3, k4⟩
    · exact .inr ⟨k4, by rw [k2]; rfl, by rw [k3]; rfl, hm⟩
    · exact .inr ⟨k4, k2, k3, hm⟩

/-- What the code of tags rests on. -/
structure YOk (P : Program) (G : Gn) (Y : TGn) : Prop where
  uv : UvrC P Y.uv
  sp : SpanC P Y.sp
  u32 : P.underlying Y.u32 = some (.int .u32)
  int : P.underlying Y.int = some (.int .i64)
  rt : RdrT P G.rt
  err : P.underlying Y.err = some (.interface (P.methodsAt Y.err))
theorem wrapU {n : Nat} (h : n < 4294967296) : IntKind.i64.wrap (n : Int) = (n : Int) := by unfold IntKind.wrap; simp [IntKind.signed, IntKind.bits]; omega
theorem only_fresh {S : Nat → Prop} {w w1 w2 : World} {r : Nat} (h : Only S w w1) (k : Only (fun j => S j ∨ j = r) w1 w2) (hr : w.heap.size ≤ r) : Only S w w2 :=
  ⟨k.os.trans h.os, k.tape.trans h.tape, k.output.trans h.output, Nat.le_trans h.size k.size, fun j hj hS => (k.block j (Nat.lt_of_lt_of_le hj h.size) (fun h => h.elim hS fun h1 => by omega)).trans (h.block j hj hS)⟩

theorem gSub_wp {Y : TGn} (hY : YOk X.P X.G Y) {k m : Nat} {c0 : Code} {a : Act} {w : World} {nn : Bool} {bs : List UInt8} {bad : Bool} (hst : St X a w nn bs bad) (h9 : 9 ≤ X.b9 ∧ X.b9 < k) (hkM : k < X.M0) (hm : X.M0 ≤ m) (hN : m + 4 ≤ X.N)
    (h : ∀ a' w' rb' v nnv s nn2 bs2 bad2 x bs1 bad1, Ag (fun j => j = k ∨ (m ≤ j ∧ j < m + 4)) a a' → gt a' k = .pointer (some ⟨rb', 0, none⟩) → St X a' w' nn2 bs2 bad2 → Only (· = X.rb) w w' → w.heap.size ≤ rb' → w'.heap[rb']? = some (.cells #[v, .bool false] X.G.rt (0, 0)) →
      Sp w' X.D nnv v s → s.length ≤ bs.length → uvS bs bad x bs1 bad1 → spS bs1 bad1 x s bs2 bad2 → Q .normal a' w') : (gSub X.G Y k m c0).wp X.P Q a w := by
  have hr := X.rsl
  have hlm := hst.lim
  have hrb := hst.rb_gt
  refine wp_reg (stC (R := UvrP X.D X.rb w bs bad) (by rw [hst.size]; omega) hY.uv.1 (argRd hst) ((hY.uv.2 X.D X.rb w nn bs bad hst.st hst.lim).mono fun e w' h => by obtain ⟨x, rfl, k⟩ := h; exact ⟨_, rfl, x, rfl, k⟩) fun v1 w1 a1 hR k1 => ?_)
  obtain ⟨x, nn1, bs1, bad1, e1, hx, o1, r1, l1, hu⟩ := uvS_one hR
  obtain rfl : v1 = .int .u32 x := by simpa using e1
  refine stV (by rw [k1.size, hst.size]; omega) (runs_conv hY.u32 hY.int (n := x) (by rw [evT]; exact k1.new)) fun a2 k2 => ?_
  rw [wrapU hx] at k2
  have s2 : a2.tmps.size = X.N := by rw [k2.size, k1.size, hst.size]
  have rs2 : gt a2 X.G.rs = .pointer (some ⟨X.rb, 0, none⟩) := (k2.old _ (by omega)).trans ((k1.old _ (by omega)).trans hst.rd)
  refine stC (R := SpanP X.D X.rb w1 nn1 bs1 bad1 (x : Int)) (by omega) hY.sp.1 (args2 rs2 k2.new) ((hY.sp.2 X.D X.rb w1 nn1 bs1 bad1 (x : Int) r1 (by omega) (by omega) (by omega)).mono fun e w' h => by obtain ⟨v, rfl, k⟩ := h; exact ⟨v, rfl, v, rfl, k⟩) fun v3 w3 a3 hR3 k3 => ?_
  obtain ⟨v, nnv, s, nn2, bs2, bad2, e3, o3, r3, l3, ls, hsp, hss⟩ := spS_one hR3
  obtain rfl : v3 = v := by simpa using e3
  obtain ⟨A, c, rfl, _⟩ := hsp.len
  refine stV (v := .agg #[.slice A s.length c, .bool false]) (by rw [k3.size]; omega) (runs_build hY.rt (by rw [evT]; exact k3.new)) fun a4 k4 => ?_
  refine stV (v := .pointer (some ⟨w3.heap.size, 0, none⟩)) (by rw [k4.size, k3.size, s2]; omega) (runs_alloc hY.rt) fun a5 k5 => ?_
  have e5 : gt a5 k = .pointer (some ⟨w3.heap.size, 0, none⟩) := k5.new
  have e5b : gt a5 (m + 3) = .agg #[.slice A s.length c, .bool false] := (k5.old _ (by omega)).trans k4.new
  have hb : Blk (w3.alloc (.cells #[.slice none 0 0, .bool false] X.G.rt)) w3.heap.size 2 := ⟨_, X.G.rt, heap_alloc_new w3 _, rfl⟩
  obtain ⟨w5, hr5, hw5⟩ := runs_storeN (P := X.P) (a := a5) (u := X.G.rt) (x := .tmp k) (y := .tmp (m + 3)) (b := w3.heap.size) (o := 0) (n := 2) (v := .agg #[.slice A s.length c, .bool false]) e5 e5b
    (by obtain ⟨inf, hi, hz⟩ := hY.rt.sz; exact ⟨inf, hi, hz⟩) (by intro c hc; simp [Value.cells] at hc; rcases hc with rfl | rfl <;> rfl) hb (by simp [Value.cells])
  have oal : Only (fun _ => False) w3 (w3.alloc (.cells #[.slice none 0 0, .bool false] X.G.rt)) := ⟨rfl, rfl, rfl, by simp, fun q hq _ => Below.heap_alloc w3 _ q hq⟩
  have o13 : Only (· = X.rb) w w3 := o1.trans o3
  have hsz := o13.size
  have o35 : Only (fun _ => False) w3 w5 := only_fresh (r := w3.heap.size) oal (hw5.only.mono fun q _ h => .inr h) (Nat.le_refl _)
  have o5 : Only (· = X.rb) w w5 := o13.trans (o35.none _)
  have hblk : w5.heap[w3.heap.size]? = some (.cells #[.slice A s.length c, .bool false] X.G.rt (0, 0)) := by
    obtain ⟨cur, q1, q2, q3⟩ := hw5.upd _ _ (heap_alloc_new w3 _)
    rw [q1]
    have c0 := hw5.cells 0 (.slice A s.length c) rfl
    have c1 := hw5.cells 1 (.bool false) rfl
    simp only [World.cell?, q1, Nat.zero_add] at c0 c1
    obtain ⟨l⟩ := cur
    match l, q2 with
    | [p, q], _ =>
      simp at c0 c1
      rw [c0, c1]
  refine wpC_skip hr5 (wpC_nil (h a5 w5 w3.heap.size _ nnv s nn2 bs2 bad2 x bs1 bad1 ⟨?_, ?_, ?_⟩ e5 ?_ o5 hsz hblk (hsp.keep (o35.block _ (by have := r3.lt; have := hrb.1; omega) id)) (by omega) hu hss))
  · rw [k5.size, k4.size, k3.size, s2, hst.size]
  · rw [k5.defers, k4.defers, k3.defers, k2.defers, k1.defers]
  · intro j hj
    rw [k5.old j (by omega), k4.old j (by omega), k3.old j (by omega), k2.old j (by omega), k1.old j (by omega)]
  · have ha : Ag (Ch X.M0 k m) a a5 := ⟨by rw [k5.size, k4.size, k3.size, s2, hst.size], by rw [k5.defers, k4.defers, k3.defers, k2.defers, k1.defers], fun j hj => by
      unfold Ch at hj
      rw [k5.old j (by omega), k4.old j (by omega), k3.old j (by omega), k2.old j (by omega), k1.old j (by omega)]⟩
    have h1 := hst.act ha h9 (by omega) (by omega)
    have hr3 : Rd X.D X.rb w5 nn2 bs2 bad2 := r3.keep (o35.block _ (by have := r3.lt; have := hrb.1; omega) id) (o35.block _ r3.lt id)
    exact h1.world hr3 (by omega) (o5.mono fun q _ h => by have h : q = X.rb := h; omega)

theorem gDone_wp (hX : XOk X) {Y : TGn} (hY : YOk X.P X.G Y) {rb' b k m : Nat} {c0 : Code} {a : Act} {w : World} {nn : Bool} {bs : List UInt8} {bad : Bool} (hrd : Rd X.D rb' w nn bs bad) (hI : X.I w) (hb : gt a b = .pointer (some ⟨rb', 0, none⟩)) (hsz : a.tmps.size = X.N) (hdf : a.defers = []) (h6 : 6 < k) (hk : k < m) (hN : m + 4 ≤ X.N)
    (good : bad = false → ∀ a' w', Ag (fun j => j = k ∨ (m ≤ j ∧ j < m + 4)) a a' → Only (fun _ => False) w w' → Q .normal a' w')
    (ret : bad = true → ∀ a' w', a'.defers = [] → IsErr true (gt a' 6) → Only (fun _ => False) w w' → Q .ret a' w') : (gDone X.G Y b k m c0).wp X.P Q a w := by
  refine wp_seq (wp_reg (stC (R := fun e w' => ∃ v, e = .returned v ∧ IsErr bad v ∧ Only (fun _ => False) w w') (by omega) hX.co.1 (args1 hb) ((hX.co.2 X.D rb' w nn bs bad hI hrd).mono fun e w' h => by obtain ⟨v, rfl, k⟩ := h; exact ⟨v, rfl, v, rfl, k⟩) fun v1 w1 a1 hR k1 => stV (by rw [k1.size]; omega) (runs_assign _) fun a2 k2 => stE ?_))
  obtain ⟨v, e1, he, ho⟩ := hR
  obtain rfl : v1 = v := by simpa using e1
  rw [evT, k1.new] at k2
  have s2 : a2.tmps.size = X.N := by rw [k2.size, k1.size, hsz]
  cases bad with
  | false =>
    have he : v1 = .nilIface := he
    refine wp_seq (wp_reg (stV (by omega) (runs_move _) fun a3 k3 => stV (v := .bool false) (by rw [k3.size]; omega) (runs_neNil hY.err (x := .tmp (m + 1)) (v := .nilIface) (by rw [evT, k3.new, evT, k2.new, he]) (.inl ⟨rfl, rfl⟩)) fun a4 k4 => stE ?_))
    refine wp_cond_false (by rw [evT]; exact k4.new) (wp_skip (good rfl a4 w1 ⟨by rw [k4.size, k3.size, k2.size, k1.size], by rw [k4.defers, k3.defers, k2.defers, k1.defers], fun j hj => by rw [k4.old j (by omega), k3.old j (by omega), k2.old j (by omega), k1.old j (by omega)]⟩ ho))
  | true =>
    have he' : ∃ t u, v1 = .iface t u := he
    refine wp_seq (wp_reg (stV (by omega) (runs_move _) fun a3 k3 => stV (v := .bool true) (by rw [k3.size]; omega) (runs_neNil hY.err (x := .tmp (m + 1)) (v := v1) (by rw [evT, k3.new, evT, k2.new]) (.inr ⟨he', rfl⟩)) fun a4 k4 => stE ?_))
    have s4 : a4.tmps.size = X.N := by rw [k4.size, k3.size, s2]
    refine wp_cond_true (by rw [evT]; exact k4.new) (wp_seq (wp_reg (stV (by omega) (runs_move _) fun a5 k5 => stV (by rw [k5.size]; omega) (runs_assign _) fun a6 k6 => stE (wp_ret (ret rfl a6 w1 ?_ ?_ ho)))))
    · rw [k6.defers, k5.defers, k4.defers, k3.defers, k2.defers, k1.defers, hdf]
    · rw [k6.new, evT, k5.new, evT, k4.old k (by omega), k3.old k (by omega), k2.new]
      exact he
end
end Go.Proofs.YtpefipjgcpchaaaGreatDoorR.Kf

namespace Go.Proofs.YtpefipjgcpchaaaGreatDoorR.Kf
set_option linter.unusedVariables false
set_option linter.unusedSimpArgs false
open Go Go.RowKit

theorem runs_subI {P : Program} {a : Act} {w : World} {t t2 : Nat} {x y : Operand} {k : IntKind} {p q : Int} (hx : a.eval x = .int k p) (hy : a.eval y = .int k q) : Runs P a w (.binOp .sub t x y t2) (.int k (k.wrap (p - q))) w := by
  intro o h
  simp [execOp, h, hx, hy, eqGuard_sub, binOp_sub, Op.intArith]
theorem lenDec_nil (c : Bool) : lenDec c [] = none := by cases c <;> rfl

/-- A reader over a part of the octets. -/
def RX.sub (X : RX) (k rb' : Nat) (h1 : X.L ≤ rb') (h2 : X.b9 ≤ k) : RX :=
  { P := X.P, G := { X.G with rs := k }, D := X.D, rb := rb', ver := X.ver, fx := X.fx, flex := X.flex, N := X.N, M0 := X.M0, I := X.I, L := X.L, lrb := h1, b9 := k, b9l := Nat.le_trans X.b9l h2, rsl := Nat.le_refl _, keep := X.keep }

section
variable {X : RX} {Q : Exit → Act → World → Prop}

/-- One known tag. -/
theorem gCase_wp (hX : XOk X) {Y : TGn} (hY : YOk X.P X.G Y) (g : TG) {T s k m b NB : Nat} {c0 : Code} {a : Act} {w : World} {nn : Bool} {bs more s0 t : List UInt8} {bad : Bool} (hg : g.ok X.P X.fx T) (hst : St X a w nn bs bad) (hs : gt a s = .pointer (some ⟨b, 0, none⟩))
    (hb : Blk w b NB) (hn : g.o + 1 ≤ NB) (hbr : b ≠ X.rb) (hbD : X.L ≤ b ∧ b ≠ X.D) (h9 : 9 ≤ X.b9 ∧ X.b9 < k) (hsk : s < k) (hk : k + g.k ≤ X.M0) (hm : X.M0 ≤ m) (hN : m + (8 + arrT g.l g.nl g.e.t) ≤ X.N) (hlen : s0.length < 4294967296)
    (hK : (bad = false ∧ bs ++ more = uvEnc s0.length ++ (s0 ++ t) ∧ (∃ x, dec (g.m X.ver X.flex).w s0 = some (x, [])) ∧ w.cell? ⟨b, g.o, none⟩ = some (.slice none 0 0)) ∨ (bad = true ∧ bs = [] ∧ more ≠ [] ∧ ∃ v0, w.cell? ⟨b, g.o, none⟩ = some v0))
    (good : ∀ a' w' nn' bs' x lo hi, bad = false → bs' ++ more = t → dec (g.m X.ver X.flex).w s0 = some (x, []) → Ag (Ch X.M0 k m) a a' → Only (fun j => j = X.rb ∨ j = b) w w' → Upd b g.o (g.o + 1) w w' → St X a' w' nn' bs' false → w.heap.size ≤ lo → lo ≤ hi → hi ≤ w'.heap.size → Holds X.D (g.m X.ver X.flex) w' lo hi b g.o x → Q .normal a' w')
    (ret : ∀ a' w', more ≠ [] → a'.defers = [] → IsErr true (gt a' 6) → Only (fun j => j = X.rb ∨ j = b) w w' → Upd b g.o (g.o + 1) w w' → Q .ret a' w') : (gCase X.G Y T s k m g c0).wp X.P Q a w := by
  obtain ⟨hge, hgl, hgf, hgS, hgb⟩ := hg
  have hM := hX.N0
  have hbl := hb.lt
  have hrl := hst.st.lt
  have hrb := hst.rb_gt
  simp only [TG.k] at hk
  have hcv : ∃ v0, w.cell? ⟨b, g.o, none⟩ = some v0 := by
    rcases hK with ⟨_, _, _, h⟩ | ⟨_, _, _, h⟩
    · exact ⟨_, h⟩
    · exact h
  obtain ⟨v0, hv0⟩ := hcv
  refine wp_seq (gSub_wp hY hst h9 (by omega) hm (by omega) fun a1 w1 rb' v nnv sx nn2 bs2 bad2 x1 bs1 bad1 g1 e1 st1 o1 hlo hrbk hsp hsl hu hss => ?_)
  have f1 : Ag (Ch X.M0 k m) a a1 := g1.mono fun j hj => by unfold Ch; omega
  have hrb1 : rb' < w1.heap.size := (Array.getElem?_eq_some_iff.1 hrbk).1
  have rd' : Rd X.D rb' w1 nnv sx false := Rd.go hrbk hsp (by omega)
  have hX' : XOk (X.sub k rb' (by omega) (by omega)) := ⟨hX.ok, hX.co, hX.i32, by show 9 ≤ k ∧ k < X.M0; omega⟩
  have st' : St (X.sub k rb' (by omega) (by omega)) a1 w1 nnv sx false := ⟨st1.size, st1.defers, st1.un, e1, st1.ver, st1.fl, rd', Nat.le_trans hsl hst.lim, st1.inv⟩
  have hb1w : w1.heap[b]? = w.heap[b]? := o1.block b hbl hbr
  have hb1 : Blk w1 b NB := hb.keep hb1w
  have hc1 : w1.cell? ⟨b, 0 + g.o, none⟩ = w.cell? ⟨b, g.o, none⟩ := by rw [Nat.zero_add]; exact World.cell?_of_block (w := w) hb1w
  have hs1 : gt a1 s = .pointer (some ⟨b, 0, none⟩) := (g1.keep s (by omega)).trans hs
  have hpre := sub_pre (more := more) (t := t) hlen (by
    rcases hK with ⟨h1, h2, _⟩ | ⟨h1, h2, h3, _⟩
    · exact .inl ⟨h1, h2⟩
    · exact .inr ⟨h1, h2, h3⟩) hu hss
  have hsz1 := o1.size
  rcases hpre with ⟨hbad, hbad2, hsx, hbs2⟩ | ⟨hbad2, hsx, hbs2, hmore⟩
  · subst hbad2; subst hsx
    rcases hK with ⟨_, _, ⟨x, hx⟩, hnil⟩ | ⟨h, _⟩
    case inr => rw [hbad] at h; cases h
    refine arrT_reads hX' (u := 0) hgl st' hs1 hgf hgS hgb (g.e.cells hge) hb1 (by omega) (hc1.trans hnil) (by show b ≠ rb'; omega) hbD (by show 9 ≤ k ∧ k < k + 1; omega) (by omega) (by show k + 1 + 4 ≤ X.M0; omega) (by show X.M0 ≤ m + 4; omega) (by show m + 4 + arrT g.l g.nl g.e.t ≤ X.N; omega)
      (El.reads hX' g.e hgS hge (by show 9 ≤ k ∧ k < k + 1; omega) (by show k + 1 + (4 + g.e.k) ≤ X.M0; omega) (by show X.M0 ≤ m + 4 + 5 + g.l.t + nullT g.nl + 10 + 5; omega) (by show m + 4 + 5 + g.l.t + nullT g.nl + 10 + 5 + g.e.t ≤ X.N; unfold arrT at hN; omega)) Q ⟨?_, ?_, ?_⟩
    · intro a3 w3 x3 bs3 nn3 _ hd3 g3 o3 u3 st3 hH c3
      have hd3 : dec (g.m X.ver X.flex).w sx = some (x3, bs3) := hd3
      rw [hx] at hd3
      simp at hd3
      obtain ⟨rfl, rfl⟩ := hd3
      have o3 : Only (fun j => j = rb' ∨ j = b) w1 w3 := o3
      have g3 : Ag (Ch X.M0 (k + 1) (m + 4)) a1 a3 := g3
      have hrd3 : Rd X.D rb' w3 nn3 [] false := st3.st
      have hk3 : gt a3 k = .pointer (some ⟨rb', 0, none⟩) := st3.rd
      have u3 : Upd b (0 + g.o) (0 + g.o + 1) w1 w3 := u3
      have hH : Holds X.D (g.m X.ver X.flex) w3 w1.heap.size w3.heap.size b (0 + g.o) x := hH
      rw [Nat.zero_add] at u3 hH
      have hsz3 := o3.size
      have hb3 : b < w3.heap.size := by omega
      refine gDone_wp hX hY hrd3 st3.inv hk3 st3.size st3.defers (by omega) (by omega) (by omega) (fun _ a4 w4 g4 o4 => ?_) (fun h => by cases h)
      have o04 : Only (fun j => j = X.rb ∨ j = b) w w4 := only_fresh (r := rb') (o1.mono (T := fun j => j = X.rb ∨ j = b) fun _ _ h => .inl h) ((o3.mono (T := fun j => (j = X.rb ∨ j = b) ∨ j = rb') fun _ _ h => by rcases h with h | h <;> simp [h]).trans (o4.none _)) hlo
      have g14 : Ag (Ch X.M0 (k + 1) (m + 4)) a1 a4 := g3.trans (g4.mono fun j hj => by unfold Ch; omega)
      have hrd : Rd X.D X.rb w4 nn2 bs2 false := st1.st.keep ((o4.block _ (by omega) id).trans (o3.block _ (by omega) (by omega))) ((o4.block _ (by omega) id).trans (o3.block _ (by omega) (by omega)))
      have st4 : St X a4 w4 nn2 bs2 false := (st1.act g14 (by omega) (by omega) (by omega)).world hrd (Nat.le_refl _) ((o3.trans (o4.none _)).mono fun q _ h => by rcases h with rfl | rfl <;> omega)
      exact good a4 w4 nn2 bs2 x w1.heap.size w3.heap.size hbad hbs2 hx (f1.trans (g14.ch (by omega) (by omega))) o04 ((Upd.same hb1w).trans (u3.trans (Upd.same (o4.block b hb3 id)))) st4 hsz1 hsz3 o4.size
        (hH.keep (o4.block _ (by omega) id) (fun q _ hq => o4.block q hq id) fun j _ => World.cell?_of_block (w := w3) (o4.block b hb3 id))
    · intro a3 w3 hno
      rcases hno with h | h
      · cases h
      · have h : dec (g.m X.ver X.flex).w sx = none := h
        rw [hx] at h; cases h
    · intro a3 w3 hno
      rcases hno with h | h
      · cases h
      · have h : dec (g.m X.ver X.flex).w sx = none := h
        rw [hx] at h; cases h
  · subst hsx
    refine arrT_bad (N := 0) hX' hgl st' hs1 hgf hgS (hc1.trans hv0) (by show 9 ≤ k ∧ k < k + 1; omega) (by omega) (by show k + 1 + 4 ≤ X.M0; omega) (by show X.M0 ≤ m + 4; omega) (by show m + 4 + arrT g.l g.nl g.e.t ≤ X.N; omega) (.inr (lenDec_nil _)) fun a3 w3 hdf he o3 => ?_
    have o3 : Only (fun j => j = rb') w1 w3 := o3
    exact ret a3 w3 hmore hdf he (only_fresh (r := rb') (o1.mono (T := fun j => j = X.rb ∨ j = b) fun _ _ h => .inl h) (o3.mono fun _ _ h => .inr h) hlo) (Upd.same ((o3.block b (by omega) (by omega)).trans hb1w))

def TG.ks : List TG → Nat
  | [] => 0
  | g :: l => g.k + TG.ks l
def TG.ts : List TG → Nat
  | [] => 0
  | g :: l => g.t + TG.ts l
/-- Which tag is it? -/
theorem gCases_wp {Y : TGn} (hY : YOk X.P X.G Y) {T s kt : Nat} {dflt : Code} {mb kx : Nat} {w : World} : ∀ (gs : List TG) (k m : Nat) (c : Code) (a : Act), gt a kt = .int .u32 kx → a.tmps.size = X.N → kt < mb → mb ≤ m → m + TG.ts gs ≤ X.N →
    (∀ g ∈ gs, g.key = kx → ∀ k' m' c' a', k ≤ k' → k' + g.k ≤ k + TG.ks gs → m ≤ m' → m' + (8 + arrT g.l g.nl g.e.t) ≤ m + TG.ts gs → Ag (fun j => mb ≤ j) a a' → (gCase X.G Y T s k' m' g c').wp X.P Q a' w) →
    ((∀ g ∈ gs, g.key ≠ kx) → ∀ a', Ag (fun j => mb ≤ j) a a' → dflt.wp X.P Q a' w) → (gCases X.G Y T s kt dflt gs k m c).wp X.P Q a w := by
  intro gs
  induction gs with
  | nil => intro k m c a _ _ _ _ _ _ hd; exact hd (fun g hg => by cases hg) a (Ag.refl _ _)
  | cons g l ih =>
    intro k m c a hkt hsz hlt hm hN hc hd
    simp only [TG.ks, TG.ts] at hN hc
    have ht : g.t = 10 + arrT g.l g.nl g.e.t := rfl
    refine wp_seq (wp_reg (stV (by omega) (runs_cmp .eql _ (.inr (.inr (.inr (.inr ⟨rfl, rfl⟩)))) (k := .u32) (p := kx) (q := g.key) hkt rfl) fun a1 k1 => stV (by rw [k1.size]; omega) (runs_assign _) fun a2 k2 => stE ?_))
    have g2 : Ag (fun j => mb ≤ j) a a2 := ⟨by rw [k2.size, k1.size], by rw [k2.defers, k1.defers], fun j hj => by rw [k2.old j (by omega), k1.old j (by omega)]⟩
    refine wp_cond (t := ((kx : Int) == (g.key : Int))) (by rw [evT, k2.new, evT, k1.new]) ?_
    by_cases he : g.key = kx
    · rw [if_pos (by simp; omega)]
      exact hc g (by simp) he k (m + 2) _ a2 (Nat.le_refl _) (by omega) (by omega) (by omega) g2
    · rw [if_neg (by simp; omega)]
      refine ih (k + g.k) (m + g.t) _ a2 ((g2.keep kt (by omega)).trans hkt) (g2.size.trans hsz) hlt (by omega) (by omega) (fun g' hg' he' k' m' c' a' q1 q2 q3 q4 q5 => hc g' (by simp [hg']) he' k' m' c' a' (by omega) (by omega) (by omega) (by omega) (g2.trans q5)) fun hno a' q => hd (fun g' hg' => ?_) a' (g2.trans q)
      rcases List.mem_cons.1 hg' with rfl | h
      · exact he
      · exact hno g' h

/-- The code of an unknown tag: it is set. -/
def UnkC (P : Program) (K : TypeId) (oT N s kk rs mlo NB : Nat) (code : Code) : Prop :=
  ∀ (Q : Exit → Act → World → Prop) (a : Act) (w : World) (D rb b base n key : Nat) (nn bad : Bool) (bs : List UInt8) (tv : Value) (acc : List (Nat × List UInt8)),
    a.tmps.size = N → a.defers = [] → gt a s = .pointer (some ⟨b, 0, none⟩) → gt a kk = .int .u32 key → gt a rs = .pointer (some ⟨rb, 0, none⟩) → key < 4294967296 → Rd D rb w nn bs bad → bs.length ≤ lim → Blk w b NB → w.cell? ⟨b, oT, none⟩ = some tv → TagsV P K w D base n acc tv → upTags 0 acc →
    D < base → b < base → rb < base → base ≤ w.heap.size → b ≠ rb → b ≠ D → n < maxLen →
    (∀ a' w' x bs1 bad1 sx bs2 bad2 nn2 tv', Ag (fun j => mlo ≤ j ∧ j < mlo + 8) a a' → uvS bs bad x bs1 bad1 → spS bs1 bad1 x sx bs2 bad2 → Rd D rb w' nn2 bs2 bad2 → bs2.length ≤ bs.length → Only (fun j => j = rb ∨ j = b ∨ tv = .map (some j)) w w' → Upd b oT (oT + 1) w w' → w'.cell? ⟨b, oT, none⟩ = some tv' → TagsV P K w' D base (n + 1) (tset key sx acc) tv' → Q .normal a' w') → code.wp P Q a w

def isK (gs : List TG) (k : Nat) : Bool := gs.any fun g => g.key == k
def unkT (gs : List TG) (ds : List (Nat × List UInt8)) : List (Nat × List UInt8) := ds.filter fun x => !isK gs x.1
theorem unkT_snoc (gs : List TG) (ds : List (Nat × List UInt8)) (x : Nat × List UInt8) : unkT gs (ds ++ [x]) = if isK gs x.1 then unkT gs ds else unkT gs ds ++ [x] := by
  unfold unkT
  rw [List.filter_append]
  by_cases h : isK gs x.1 = true <;> simp [h]
theorem upTags_filter (p : Nat × List UInt8 → Bool) : ∀ (l : List (Nat × List UInt8)) (b : Nat), upTags b l → upTags b (l.filter p) := by
  intro l
  induction l with
  | nil => intro b _; trivial
  | cons x l ih =>
    obtain ⟨k, v⟩ := x
    intro b h
    obtain ⟨h1, h2, h3, h4⟩ := h
    have := ih (k + 1) h4
    rw [List.filter_cons]
    split
    · exact ⟨h1, h2, h3, this⟩
    · exact upTags_mono (by omega) this
/-- Ahead of a tag there are only lower numbers. -/
theorem upTags_below : ∀ (ds : List (Nat × List UInt8)) (b : Nat) (x : Nat × List UInt8) (rr : List (Nat × List UInt8)), upTags b (ds ++ x :: rr) → belowTags x.1 ds ∧ b ≤ x.1 := by
  intro ds
  induction ds with
  | nil => intro b x rr h; exact ⟨fun y hy => (by cases hy), h.1⟩
  | cons y ds ih =>
    intro b x rr h
    obtain ⟨k, v⟩ := y
    obtain ⟨h1, h2, h3, h4⟩ := h
    obtain ⟨k1, k2⟩ := ih (k + 1) x rr h4
    refine ⟨fun z hz => ?_, by omega⟩
    rcases List.mem_cons.1 hz with rfl | hz
    · show k < x.1; omega
    · exact k1 z hz

/-- What is known of the tagged lists. -/
def FdsT (X : RX) (gs : List TG) (b B0 B : Nat) (ds : List (Nat × List UInt8)) (w : World) : Prop :=
  ∀ g ∈ gs, ((∀ s, (g.key, s) ∉ ds) → w.cell? ⟨b, g.o, none⟩ = some (.slice none 0 0)) ∧ ∀ s, (g.key, s) ∈ ds → ∃ x lo hi, dec (g.m X.ver X.flex).w s = some (x, []) ∧ B0 ≤ lo ∧ lo ≤ hi ∧ hi ≤ B ∧ Holds X.D (g.m X.ver X.flex) w lo hi b g.o x
/-- The tagged lists have numbers and places of their own. -/
structure GsOk (gs : List TG) (oT lo NB : Nat) : Prop where
  dis : ∀ g ∈ gs, ∀ g' ∈ gs, g.key ≠ g'.key → g.o ≠ g'.o
  uni : ∀ g ∈ gs, ∀ g' ∈ gs, g.key = g'.key → g = g'
  tag : ∀ g ∈ gs, g.o ≠ oT
  zero : ∃ g ∈ gs, g.key = 0
  pl : ∀ g ∈ gs, lo ≤ g.o ∧ g.o + 1 ≤ NB
  plT : lo ≤ oT ∧ oT + 1 ≤ NB
theorem FdsT.keep {gs : List TG} {b B0 B : Nat} {ds : List (Nat × List UInt8)} {w w' : World} (h : FdsT X gs b B0 B ds w) (hD : w'.heap[X.D]? = w.heap[X.D]?) (hk : ∀ q, B0 ≤ q → q < B → w'.heap[q]? = w.heap[q]?) (hc : ∀ g ∈ gs, w'.cell? ⟨b, g.o, none⟩ = w.cell? ⟨b, g.o, none⟩) : FdsT X gs b B0 B ds w' := by
  intro g hg
  refine ⟨fun h1 => (hc g hg).trans ((h g hg).1 h1), fun s hs => ?_⟩
  obtain ⟨x, lo, hi, h1, h2, h3, h4, h5⟩ := (h g hg).2 s hs
  refine ⟨x, lo, hi, h1, h2, h3, h4, h5.keep hD (fun q q1 q2 => hk q (by omega) (by omega)) fun j hj => ?_⟩
  have : j = 0 := by
    have e : (g.m X.ver X.flex).cells = 1 := rfl
    omega
  rw [this]; exact hc g hg
end
end Go.Proofs.YtpefipjgcpchaaaGreatDoorR.Kf

namespace Go.Proofs.YtpefipjgcpchaaaGreatDoorR.Kf
set_option linter.unusedVariables false
set_option linter.unusedSimpArgs false
open Go Go.RowKit

theorem upTags_pre : ∀ (ds rr : List (Nat × List UInt8)) (b : Nat), upTags b (ds ++ rr) → upTags b ds := by
  intro ds
  induction ds with
  | nil => intro rr b _; trivial
  | cons x ds ih =>
    obtain ⟨k, v⟩ := x
    intro rr b h
    exact ⟨h.1, h.2.1, h.2.2.1, ih rr _ h.2.2.2⟩
theorem TagsV.keepO {P : Program} {K : TypeId} {S : Nat → Prop} {w w' : World} {D base n : Nat} {l : List (Nat × List UInt8)} {tv : Value} (h : TagsV P K w D base n l tv) (o : Only S w w') (hD : ¬ S D) (hDl : D < w.heap.size) (hr : ∀ j, base ≤ j → ¬ S j) : TagsV P K w' D base n l tv := by
  rcases h with h | ⟨r, h1, h2, h3⟩
  · exact .inl h
  · obtain ⟨es, clock, hb, rest⟩ := id h3
    have hrl : r < w.heap.size := (Array.getElem?_eq_some_iff.1 hb).1
    exact TagsV.keep (.inr ⟨r, h1, h2, h3⟩) (o.block D hDl hD) fun r' q1 q2 => by
      rw [h1] at q2
      cases q2
      exact o.block r hrl (hr r h2)
theorem Only.trans' {S T : Nat → Prop} {a b c : World} (h : Only S a b) (k : Only T b c) (hs : ∀ j, j < a.heap.size → T j → S j) : Only S a c :=
  ⟨k.os.trans h.os, k.tape.trans h.tape, k.output.trans h.output, Nat.le_trans h.size k.size, fun j hj hS => (k.block j (Nat.lt_of_lt_of_le hj h.size) fun ht => hS (hs j hj ht)).trans (h.block j hj hS)⟩

section
variable {X : RX} {Q : Exit → Act → World → Prop}

/-- Where the loop over the tags stands (v: the count; i: how many are left). -/
def TJ (X : RX) (K : TypeId) (gs : List TG) (s k b NB oT lo : Nat) (w0 : World) (rs : List (Nat × List UInt8)) (more : List UInt8) (a : Act) (w : World) (v i : Nat) : Prop :=
  ∃ nn bs bad, St X a w nn bs bad ∧ gt a k = .int .u32 v ∧ v < 4294967296 ∧ gt a s = .pointer (some ⟨b, 0, none⟩) ∧ Blk w b NB ∧ Only (fun j => j = X.rb ∨ j = b) w0 w ∧ Upd b lo NB w0 w ∧
    ((bad = false ∧ ∃ ds rr B tv n, rs = ds ++ rr ∧ i = rr.length ∧ bs ++ more = encTags rr ∧ w0.heap.size ≤ B ∧ B ≤ w.heap.size ∧ FdsT X gs b w0.heap.size B ds w ∧ w.cell? ⟨b, oT, none⟩ = some tv ∧ TagsV X.P K w X.D B n (unkT gs ds) tv ∧ n ≤ ds.length ∧ (unkT gs ds = [] → tv = .map none)) ∨
      (bad = true ∧ bs = [] ∧ more ≠ []))

/-- What the tags that were written are. -/
structure RsOk (X : RX) (gs : List TG) (rs : List (Nat × List UInt8)) : Prop where
  up : upTags 0 rs
  len : rs.length < 4294967296
  ord : ∀ g ∈ gs, ∀ x ∈ rs, isK gs x.1 = false → g.key < x.1
  dec : ∀ g ∈ gs, ∀ s, (g.key, s) ∈ rs → ∃ x, dec (g.m X.ver X.flex).w s = some (x, [])

theorem gTag1_wp (hX : XOk X) {Y : TGn} (hY : YOk X.P X.G Y) {K : TypeId} {gs : List TG} {T s k m b NB oT lo : Nat} {w0 : World} {rs : List (Nat × List UInt8)} {more : List UInt8} {c : Code} {a : Act} {w : World} {v i : Nat}
    (hgs : ∀ g ∈ gs, g.ok X.P X.fx T) (hG : GsOk gs oT lo NB) (hR : RsOk X gs rs) (hU : UnkC X.P K oT X.N s (k + 1) X.G.rs (m + 8) NB (gUnk X.G Y T s (k + 1) (m + 8) (pc c ([1, 1, 0] ++ pth gs.length))))
    (hb0 : b < w0.heap.size) (hr0 : X.rb < w0.heap.size) (hbr : b ≠ X.rb) (hbD : X.L ≤ b ∧ b ≠ X.D) (h9 : 9 ≤ X.b9 ∧ X.b9 < k) (hsk : s < k) (hk : k + 2 + TG.ks gs ≤ X.M0) (hm : X.M0 ≤ m) (hN : m + 16 + TG.ts gs ≤ X.N)
    (hJ : TJ X K gs s k b NB oT lo w0 rs more a w v (i + 1))
    (next : ∀ a' w', TJ X K gs s k b NB oT lo w0 rs more a' w' v i → Q .normal a' w')
    (ret : ∀ a' w', more ≠ [] → a'.defers = [] → IsErr true (gt a' 6) → Only (fun j => j = X.rb ∨ j = b) w0 w' → Upd b lo NB w0 w' → Q .ret a' w') : (gTag1 X.G Y T s k m gs c).wp X.P Q a w := by
  obtain ⟨nn, bs, bad, hst, hcnt, hv, hs, hb, hO, hUp, hcase⟩ := hJ
  have hM := hX.N0
  have hrb := hst.rb_gt
  have hrs := X.rsl
  have hsz0 := hO.size
  refine wp_seq (wp_reg (stC (R := UvrP X.D X.rb w bs bad) (by rw [hst.size]; omega) hY.uv.1 (argRd hst) ((hY.uv.2 X.D X.rb w nn bs bad hst.st hst.lim).mono fun e w' h => by obtain ⟨x, rfl, k⟩ := h; exact ⟨_, rfl, x, rfl, k⟩) fun v1 w1 a1 hR1 k1 => stV (by rw [k1.size, hst.size]; omega) (runs_assign _) fun a2 k2 => stE ?_))
  obtain ⟨x, nn1, bs1, bad1, e1, hx, o1, r1, l1, hu⟩ := uvS_one hR1
  obtain rfl : v1 = .int .u32 x := by simpa using e1
  rw [evT, k1.new] at k2
  have s2 : a2.tmps.size = X.N := by rw [k2.size, k1.size, hst.size]
  refine wp_seq (wp_reg (stV (by omega) (runs_move _) fun a3 k3 => stE ?_))
  rw [evT, k2.new] at k3
  have g3 : Ag (Ch X.M0 (k + 1) m) a a3 := ⟨by rw [k3.size, k2.size, k1.size], by rw [k3.defers, k2.defers, k1.defers], fun j hj => by unfold Ch at hj; rw [k3.old j (by omega), k2.old j (by omega), k1.old j (by omega)]⟩
  have st3 : St X a3 w1 nn1 bs1 bad1 := (hst.act g3 (by omega) (by omega) (by omega)).world r1 l1 (o1.mono fun q _ h => by have h : q = X.rb := h; omega)
  have s3 : gt a3 s = .pointer (some ⟨b, 0, none⟩) := (g3.keep s (by unfold Ch; omega)).trans hs
  have c3 : gt a3 k = .int .u32 v := (g3.keep k (by unfold Ch; omega)).trans hcnt
  have kk3 : gt a3 (k + 1) = .int .u32 x := (k3.old _ (by omega)).trans k2.new
  have hbw : w1.heap[b]? = w.heap[b]? := o1.block b (by omega) hbr
  have hb1 : Blk w1 b NB := hb.keep hbw
  have hO1 : Only (fun j => j = X.rb ∨ j = b) w0 w1 := hO.trans (o1.mono fun _ _ h => .inl h)
  have hU1 : Upd b lo NB w0 w1 := hUp.trans (Upd.same hbw)
  have hcell : ∀ o, w1.cell? ⟨b, o, none⟩ = w.cell? ⟨b, o, none⟩ := fun o => World.cell?_of_block (w := w) hbw
  have hsz1 := o1.size
  have sz3 : a3.tmps.size = X.N := by rw [k3.size, s2]
  clear k1 k2 hR1 e1
  have hbad : (bad1 = true ∧ x = 0 ∧ bs1 = [] ∧ more ≠ []) ∨ ∃ ds kx sx rr' B tv n, bad1 = false ∧ x = kx ∧ bs1 ++ more = uvEnc sx.length ++ (sx ++ encTags rr') ∧ rs = ds ++ (kx, sx) :: rr' ∧ i = rr'.length ∧ w0.heap.size ≤ B ∧ B ≤ w.heap.size ∧ FdsT X gs b w0.heap.size B ds w ∧ w.cell? ⟨b, oT, none⟩ = some tv ∧ TagsV X.P K w X.D B n (unkT gs ds) tv ∧ n ≤ ds.length ∧ (unkT gs ds = [] → tv = .map none) := by
    rcases hcase with ⟨rfl, ds, rr, B, tv, n, h1, h2, h3, h4⟩ | ⟨rfl, rfl, hm0⟩
    · cases rr with
      | nil => simp at h2
      | cons y rr' =>
        obtain ⟨kx, sx⟩ := y
        have hlt := upTags_lt rs 0 hR.up (kx, sx) (by rw [h1]; simp)
        rcases uv_pre (n := kx) (t := uvEnc sx.length ++ (sx ++ encTags rr')) hlt.1 (.inl ⟨rfl, h3⟩) hu with ⟨_, q1, q2, q3⟩ | q
        · exact .inr ⟨ds, kx, sx, rr', B, tv, n, q1, q2, q3, h1, by simpa using h2, h4⟩
        · exact .inl q
    · rcases uv_pre (n := 0) (t := []) (by decide) (.inr ⟨rfl, rfl, hm0⟩) hu with ⟨h, _⟩ | q
      · cases h
      · exact .inl q
  rcases hbad with ⟨hb1', rfl, hbs1, hmore⟩ | ⟨ds, kx, sx, rr', B, tv, n, hb1', rfl, hbs1, hrsE, hi, hB0, hB, hF, htv, hT, hn, hnil⟩
  · -- the reader has failed
    subst hb1'; subst hbs1
    refine wp_block (gCases_wp hY gs (k + 2) (m + 16) _ a3 k3.new sz3 (Nat.lt_succ_self _) (by omega) (by omega) (fun g hg hgk k' m' c' a' q1 q2 q3 q4 q5 => ?_) fun hno => ?_)
    · have q5' : Ag (Ch X.M0 k' (m + 8)) a3 a' := q5.mono fun j hj => by unfold Ch; omega
      have hp := hG.pl g hg
      refine gCase_wp hX hY g (b := b) (NB := NB) (more := more) (s0 := []) (t := []) (hgs g hg) (st3.act q5' (by omega) (by omega) (by omega)) ((q5.keep s (by omega)).trans s3) hb1 hp.2 hbr hbD (by omega) (by omega) (by omega) (by omega) (by omega) (by decide) (.inr ⟨rfl, rfl, hmore, ?_⟩) (fun a4 w4 nn4 bs4 x4 lo4 hi4 h => by cases h) fun a4 w4 hm4 hd4 he4 ho4 hu4 => ret a4 w4 hm4 hd4 he4 (hO1.trans ho4) (hU1.trans (hu4.mono hp.1 hp.2))
      obtain ⟨cur, e, hh, hsz⟩ := hb1
      have : g.o < cur.size := by omega
      exact ⟨cur[g.o], by simp [World.cell?, hh, this]⟩
    · obtain ⟨g, hg, hz⟩ := hG.zero
      exact absurd hz (hno g hg)
  · subst hb1'
    have hbel := upTags_below ds 0 (x, sx) rr' (by rw [← hrsE]; exact hR.up)
    have hmem : (x, sx) ∈ rs := by rw [hrsE]; simp
    have hltx := upTags_lt rs 0 hR.up (x, sx) hmem
    have hnot : ∀ s', (x, s') ∉ ds := fun s' h => by have := hbel.1 _ h; simp at this
    have hF1 : FdsT X gs b w0.heap.size B ds w1 := hF.keep (o1.block _ (by omega) (by omega)) (fun q q1 q2 => o1.block q (by omega) (by omega)) fun g hg => hcell g.o
    have hT1 : TagsV X.P K w1 X.D B n (unkT gs ds) tv := hT.keepO o1 (by show ¬ X.D = X.rb; omega) (by omega) (fun j hj => by show ¬ j = X.rb; omega)
    refine wp_block (gCases_wp hY gs (k + 2) (m + 16) _ a3 k3.new sz3 (Nat.lt_succ_self _) (by omega) (by omega) (fun g hg hgk k' m' c' a' q1 q2 q3 q4 q5 => ?_) fun hno a' q5 => ?_)
    · -- a known tag
      have q5' : Ag (Ch X.M0 k' (m + 8)) a3 a' := q5.mono fun j hj => by unfold Ch; omega
      have hp := hG.pl g hg
      subst hgk
      have hun : unkT gs ds = [] := by
        unfold unkT
        rw [List.filter_eq_nil_iff]
        intro y hy hky
        have h1 := hR.ord g hg y (by rw [hrsE]; simp [hy]) (by simpa using hky)
        have h2 := hbel.1 y hy
        simp at h2; omega
      have htn := hnil hun
      subst htn
      have hst' := st3.act q5' (k := k') (m := m + 8) (by omega) (by omega) (by omega)
      refine gCase_wp hX hY g (b := b) (NB := NB) (more := more) (s0 := sx) (t := encTags rr') (hgs g hg) hst' ((q5.keep s (by omega)).trans s3) hb1 hp.2 hbr hbD (by omega) (by omega) (by omega) (by omega) (by omega) hltx.2 (.inl ⟨rfl, hbs1, hR.dec g hg sx hmem, (hF1 g hg).1 hnot⟩) ?_ fun a4 w4 hm4 hd4 he4 ho4 hu4 => ret a4 w4 hm4 hd4 he4 (hO1.trans ho4) (hU1.trans (hu4.mono hp.1 hp.2))
      intro a4 w4 nn4 bs4 x4 lo4 hi4 _ hbs4 hdec4 g4 o4 u4 st4 hlo4 hlh4 hhi4 hH4
      have ho4 : ∀ o, o ≠ g.o → w4.cell? ⟨b, o, none⟩ = w1.cell? ⟨b, o, none⟩ := fun o ho => u4.cell hb1 (by omega)
      have hsz4 := o4.size
      have g34 : Ag (Ch X.M0 (k + 2) (m + 8)) a3 a4 := (q5.mono fun j hj => by unfold Ch; omega).trans (g4.ch (by omega) (by omega))
      have hDn : ¬ (X.D = X.rb ∨ X.D = b) := by have := hbD.2; omega
      have hDl1 : X.D < w1.heap.size := by omega
      have hqn : ∀ q, w0.heap.size ≤ q → ¬ (q = X.rb ∨ q = b) := fun q hq => by omega
      have hF4 : FdsT X gs b w0.heap.size w4.heap.size (ds ++ [(g.key, sx)]) w4 := by
        intro g' hg'
        by_cases hgk : g'.key = g.key
        · obtain rfl := hG.uni g' hg' g hg hgk
          refine ⟨fun h => absurd (by simp) (h sx), fun s' hs' => ?_⟩
          rcases List.mem_append.1 hs' with h | h
          · exact absurd h (hnot s')
          · have : s' = sx := by simpa using h
            subst this
            exact ⟨x4, lo4, hi4, hdec4, by omega, hlh4, hhi4, hH4⟩
        · have hoo := hG.dis g' hg' g hg hgk
          refine ⟨fun h => (ho4 _ hoo).trans ((hF1 g' hg').1 fun s' hs' => h s' (by simp [hs'])), fun s' hs' => ?_⟩
          have hd : (g'.key, s') ∈ ds := by
            rcases List.mem_append.1 hs' with h | h
            · exact h
            · simp at h; exact absurd h.1 hgk
          obtain ⟨y, lo5, hi5, p1, p2, p3, p4, p5⟩ := (hF1 g' hg').2 s' hd
          have hB4 : hi5 ≤ w4.heap.size := Nat.le_trans p4 (Nat.le_trans hB (Nat.le_trans hsz1 hsz4))
          refine ⟨y, lo5, hi5, p1, p2, p3, hB4, p5.keep (o4.block _ hDl1 hDn) (fun q q1 q2 => o4.block q (Nat.lt_of_lt_of_le q2 (Nat.le_trans p4 (Nat.le_trans hB hsz1))) (hqn q (Nat.le_trans p2 q1))) fun j hj => ?_⟩
          have : j = 0 := by
            have e : (g'.m X.ver X.flex).cells = 1 := rfl
            omega
          rw [this]; exact ho4 _ hoo
      have hunk : unkT gs (ds ++ [(g.key, sx)]) = [] := by
        rw [unkT_snoc, if_pos (by unfold isK; simp only [List.any_eq_true, beq_iff_eq]; exact ⟨g, hg, rfl⟩), hun]
      refine next a4 w4 ⟨nn4, bs4, false, st4, ?_, hv, ?_, u4.blk hb1, hO1.trans o4, hU1.trans (u4.mono hp.1 hp.2), .inl ⟨rfl, ds ++ [(g.key, sx)], rr', w4.heap.size, .map none, 0, by rw [hrsE]; simp, hi, hbs4, by omega, Nat.le_refl _, hF4, ?_, .inl ⟨rfl, hunk⟩, by simp, fun _ => rfl⟩⟩
      · exact (g34.keep k (by unfold Ch; omega)).trans c3
      · exact (g34.keep s (by unfold Ch; omega)).trans s3
      · rw [ho4 oT (fun e => hG.tag g hg e.symm), hcell]; exact htv
    · -- an unknown one
      have q5' : Ag (Ch X.M0 (k + 2) (m + 8)) a3 a' := q5.mono fun j hj => by unfold Ch; omega
      have hst' := st3.act q5' (by omega) (by omega) (by omega)
      have hkx : isK gs x = false := by
        unfold isK
        rw [Bool.eq_false_iff]
        intro h
        simp only [List.any_eq_true, beq_iff_eq] at h
        obtain ⟨g, hg, he⟩ := h
        exact hno g hg he
      have hdl : ds.length ≤ rs.length := by rw [hrsE]; simp
      have hlen := hR.len
      have hbelu : belowTags x (unkT gs ds) := fun y hy => hbel.1 y (List.mem_filter.1 hy).1
      refine hU _ a' w1 X.D X.rb b B n x nn1 false bs1 tv (unkT gs ds) hst'.size hst'.defers ((q5.keep s (by omega)).trans s3) ((q5.keep (k + 1) (by omega)).trans kk3) hst'.rd hltx.1 st3.st st3.lim hb1 ((hcell oT).trans htv) hT1 (upTags_filter _ _ _ (upTags_pre ds _ 0 (by rw [← hrsE]; exact hR.up))) (by omega) (by omega) (by omega) (by omega) hbr hbD.2 (by unfold maxLen; omega) ?_
      intro a4 w4 y bs2 bad2 s4 bs4 bad4 nn4 tv4 g4 hu4 hs4 r4 l4 o4 u4 c4 t4
      rw [tset_last _ _ _ hbelu] at t4
      have g34 : Ag (Ch X.M0 (k + 2) (m + 8)) a3 a4 := q5'.trans (g4.mono fun j hj => by unfold Ch; omega)
      have hrB : ∀ j, tv = .map (some j) → B ≤ j := by
        intro j hj
        rcases hT1 with ⟨h, _⟩ | ⟨r, h, h2, _⟩
        · rw [h] at hj; cases hj
        · rw [h] at hj; cases hj; exact h2
      have st4 : St X a4 w4 nn4 bs4 bad4 := (st3.act g34 (by omega) (by omega) (by omega)).world r4 l4 (o4.mono fun q _ h => by
        rcases h with h | h | h
        · omega
        · omega
        · have := hrB q h; omega)
      have o04 : Only (fun j => j = X.rb ∨ j = b) w0 w4 := hO1.trans' o4 fun j hj h => by
        rcases h with h | h | h
        · exact .inl h
        · exact .inr h
        · have := hrB j h; omega
      have hpT := hG.plT
      refine next a4 w4 ⟨nn4, bs4, bad4, st4, (g34.keep k (by unfold Ch; omega)).trans c3, hv, (g34.keep s (by unfold Ch; omega)).trans s3, u4.blk hb1, o04, hU1.trans (u4.mono hpT.1 hpT.2), ?_⟩
      rcases sub_pre (more := more) (t := encTags rr') hltx.2 (.inl ⟨rfl, hbs1⟩) hu4 hs4 with ⟨_, p1, p2, p3⟩ | ⟨p1, p2, p3, p4⟩
      · subst p1; subst p2
        have hF4 : FdsT X gs b w0.heap.size B ds w4 := hF1.keep (o4.block _ (by omega) (by
          rintro (h | h | h)
          · omega
          · exact hbD.2 h.symm
          · have := hrB _ h; omega)) (fun q q1 q2 => o4.block q (by omega) (by
          rintro (h | h | h)
          · omega
          · omega
          · have := hrB _ h; omega)) fun g hg => u4.cell hb1 (by have := hG.tag g hg; omega)
        refine .inl ⟨rfl, ds ++ [(x, s4)], rr', B, tv4, n + 1, by rw [hrsE]; simp, hi, p3, hB0, by have := o4.size; omega, fun g hg => ⟨fun h => (hF4 g hg).1 fun s' hs' => h s' (by simp [hs']), fun s' hs' => (hF4 g hg).2 s' ?_⟩, c4, ?_, by simp; omega, ?_⟩
        · rcases List.mem_append.1 hs' with h | h
          · exact h
          · simp at h; exact absurd h.1 (hno g hg)
        · rw [unkT_snoc, if_neg (by simp [hkx])]; exact t4
        · rw [unkT_snoc, if_neg (by simp [hkx])]; simp
      · exact .inr ⟨p1, p3, p4⟩
end
end Go.Proofs.YtpefipjgcpchaaaGreatDoorR.Kf

namespace Go.Proofs.YtpefipjgcpchaaaGreatDoorR.Kf
set_option linter.unusedVariables false
set_option linter.unusedSimpArgs false
open Go Go.RowKit

/-- What tags are written as. -/
def tgB (flex : Bool) (rs : List (Nat × List UInt8)) : List UInt8 := if flex then uvEnc rs.length ++ encTags rs else []
/-- What is known of the tagged lists (outside of any reader). -/
def FdsD (D : Nat) (ver : Int) (flex : Bool) (gs : List TG) (b B0 B : Nat) (ds : List (Nat × List UInt8)) (w : World) : Prop :=
  ∀ g ∈ gs, ((∀ s, (g.key, s) ∉ ds) → w.cell? ⟨b, g.o, none⟩ = some (.slice none 0 0)) ∧ ∀ s, (g.key, s) ∈ ds → ∃ x lo hi, dec (g.m ver flex).w s = some (x, []) ∧ B0 ≤ lo ∧ lo ≤ hi ∧ hi ≤ B ∧ Holds D (g.m ver flex) w lo hi b g.o x
/-- What tags that have been read lie as. -/
def TgsQ (P : Program) (K : TypeId) (D : Nat) (ver : Int) (flex : Bool) (gs : List TG) (b oT B0 : Nat) (rs : List (Nat × List UInt8)) (w : World) : Prop :=
  ∃ B tv n, B0 ≤ B ∧ B ≤ w.heap.size ∧ FdsD D ver flex gs b B0 B rs w ∧ w.cell? ⟨b, oT, none⟩ = some tv ∧ TagsV P K w D B n (unkT gs rs) tv ∧ n ≤ rs.length

section
variable {X : RX} {Q : Exit → Act → World → Prop}

theorem TJ.act {K : TypeId} {gs : List TG} {s k m b NB oT lo : Nat} {w0 : World} {rs : List (Nat × List UInt8)} {more : List UInt8} {a a' : Act} {w : World} {v v' i : Nat} (h : TJ X K gs s k b NB oT lo w0 rs more a w v i) (g : Ag (Ch X.M0 k m) a a') (hv : gt a' k = .int .u32 v') (hv' : v' < 4294967296)
    (h9 : 9 ≤ X.b9 ∧ X.b9 < k) (hsk : s < k) (hk : k < X.M0) (hm : X.M0 ≤ m) : TJ X K gs s k b NB oT lo w0 rs more a' w v' i := by
  obtain ⟨nn, bs, bad, hst, _, _, hs, hb, hO, hU, hc⟩ := h
  exact ⟨nn, bs, bad, hst.act g h9 (by omega) (by omega), hv, hv', (g.keep s (by unfold Ch; omega)).trans hs, hb, hO, hU, hc⟩

/-- The loop over the tags. -/
theorem gTgL_wp (hX : XOk X) {Y : TGn} (hY : YOk X.P X.G Y) {K : TypeId} {gs : List TG} {T s k m b NB oT lo : Nat} {w0 : World} {rs : List (Nat × List UInt8)} {more : List UInt8} {c : Code} {a : Act} {w : World} {n : Nat}
    (hgs : ∀ g ∈ gs, g.ok X.P X.fx T) (hG : GsOk gs oT lo NB) (hR : RsOk X gs rs) (hU : UnkC X.P K oT X.N s (k + 1) X.G.rs (m + 8) NB (gUnk X.G Y T s (k + 1) (m + 8) (pc (pc c [0, 0, 1, 0, 0]) ([1, 1, 0] ++ pth gs.length))))
    (hb0 : b < w0.heap.size) (hr0 : X.rb < w0.heap.size) (hbr : b ≠ X.rb) (hbD : X.L ≤ b ∧ b ≠ X.D) (h9 : 9 ≤ X.b9 ∧ X.b9 < k) (hsk : s < k) (hk : k + 2 + TG.ks gs ≤ X.M0) (hm : X.M0 ≤ m) (hN : m + 16 + TG.ts gs ≤ X.N)
    (hJ : TJ X K gs s k b NB oT lo w0 rs more a w n n)
    (done : ∀ a' w', TJ X K gs s k b NB oT lo w0 rs more a' w' 0 0 → Q .normal a' w')
    (ret : ∀ a' w', more ≠ [] → a'.defers = [] → IsErr true (gt a' 6) → Only (fun j => j = X.rb ∨ j = b) w0 w' → Upd b lo NB w0 w' → Q .ret a' w') : (gTgL X.G Y T s k m gs c).wp X.P Q a w := by
  refine wp_block (wp_loop (fun a w => ∃ n, TJ X K gs s k b NB oT lo w0 rs more a w n n) (fun a _ => (intOf (gt a k)).toNat) ⟨n, hJ⟩ ?_)
  clear hJ
  rintro a w ⟨n, hJ⟩
  obtain ⟨nn, bs, bad, hst, hcnt, hv, _⟩ := id hJ
  have hsz := hst.size

  refine wp_seq (wp_seq (wp_reg (stV (by omega) (runs_move _) fun a1 k1 => stV (by rw [k1.size]; omega) (runs_cmp .gtr _ (.inr (.inr (.inl ⟨rfl, rfl⟩))) (k := .u32) (p := (n : Int)) (q := 0) (by rw [evT, k1.new, evT, hcnt]) rfl) fun a2 k2 => stE ?_)))
  have g2 : Ag (Ch X.M0 k m) a a2 := ⟨by rw [k2.size, k1.size], by rw [k2.defers, k1.defers], fun j hj => by unfold Ch at hj; rw [k2.old j (by omega), k1.old j (by omega)]⟩
  have c2 : gt a2 k = .int .u32 n := by rw [k2.old k (by omega), k1.old k (by omega)]; exact hcnt
  have hJ2 := hJ.act g2 c2 hv h9 hsk (by omega) hm
  have s2 : a2.tmps.size = X.N := by rw [k2.size, k1.size, hsz]
  refine wp_cond (t := decide ((n : Int) > 0)) (by rw [evT, k2.new]) ?_
  cases n with
  | zero =>
    rw [if_neg (by simp)]
    refine wp_exit ?_
    show (if Code.id0 c = Code.id0 c then Q .normal a2 w else Q (.exit _) a2 w)
    rw [if_pos rfl]
    exact done a2 w hJ2
  | succ n =>
    rw [if_pos (by simp)]
    refine wp_skip (wp_seq (wp_block (gTag1_wp hX hY hgs hG hR hU hb0 hr0 hbr hbD h9 hsk hk hm hN hJ2 (fun a3 w3 hJ3 => ?_) fun a3 w3 q1 q2 q3 q4 q5 => ?_)))
    · show (reg _ _).wp X.P _ a3 w3
      obtain ⟨nn3, bs3, bad3, hst3, hcnt3, _⟩ := id hJ3
      have hsz3 := hst3.size
      refine wp_reg (stV (by omega) (runs_move _) fun a4 k4 => stV (by rw [k4.size]; omega) (runs_subI (k := .u32) (p := ((n + 1 : Nat) : Int)) (q := 1) (by rw [evT, k4.new, evT, hcnt3]) rfl) fun a5 k5 => stV (by rw [k5.size, k4.size]; omega) (runs_assign _) fun a6 k6 => stE ?_)
      have ew : IntKind.u32.wrap (((n + 1 : Nat) : Int) - 1) = (n : Int) := by rw [IntKind.wrap_u32]; omega
      rw [ew] at k5
      have c6 : gt a6 k = .int .u32 n := by rw [k6.new, evT, k5.new]
      have g6 : Ag (Ch X.M0 k m) a3 a6 := ⟨by rw [k6.size, k5.size, k4.size], by rw [k6.defers, k5.defers, k4.defers], fun j hj => by unfold Ch at hj; rw [k6.old j (by omega), k5.old j (by omega), k4.old j (by omega)]⟩
      refine ⟨⟨n, hJ3.act g6 c6 (by omega) h9 hsk (by omega) hm⟩, ?_⟩
      rw [c6, hcnt]
      simp [intOf]
    · exact ret a3 w3 q1 q2 q3 q4 q5

/-- All tags. -/
theorem gTgd_wp (hX : XOk X) {Y : TGn} (hY : YOk X.P X.G Y) {K : TypeId} {gs : List TG} {T s k m b NB oT lo : Nat} {rs : List (Nat × List UInt8)} {more : List UInt8} {c : Code} {a : Act} {w : World} {nn : Bool} {bs : List UInt8} {bad : Bool}
    (hgs : ∀ g ∈ gs, g.ok X.P X.fx T) (hG : GsOk gs oT lo NB) (hR : RsOk X gs rs) (hU : UnkC X.P K oT X.N s (k + 1) X.G.rs (m + 8) NB (gUnk X.G Y T s (k + 1) (m + 8) (pc (pc (pc c [1, 0, 1]) [0, 0, 1, 0, 0]) ([1, 1, 0] ++ pth gs.length))))
    (hfx : X.fx = true) (hst : St X a w nn bs bad) (hs : gt a s = .pointer (some ⟨b, 0, none⟩)) (hb : Blk w b NB)
    (hbr : b ≠ X.rb) (hbD : X.L ≤ b ∧ b ≠ X.D) (h9 : 9 ≤ X.b9 ∧ X.b9 < k) (hsk : s < k) (hk : k + 2 + TG.ks gs ≤ X.M0) (hm : X.M0 ≤ m) (hN : m + 16 + TG.ts gs ≤ X.N)
    (hnil : ∀ g ∈ gs, w.cell? ⟨b, g.o, none⟩ = some (.slice none 0 0)) (htv : w.cell? ⟨b, oT, none⟩ = some (.map none)) (hfl : X.flex = false → rs = [])
    (hpre : (bad = false ∧ bs ++ more = tgB X.flex rs) ∨ (bad = true ∧ bs = [] ∧ more ≠ []))
    (good : ∀ a' w' nn', more = [] → St X a' w' nn' [] false → Only (fun j => j = X.rb ∨ j = b) w w' → Upd b lo NB w w' → TgsQ X.P K X.D X.ver X.flex gs b oT w.heap.size rs w' → Q .normal a' w')
    (fail : ∀ a' w' nn', more ≠ [] → St X a' w' nn' [] true → Only (fun j => j = X.rb ∨ j = b) w w' → Upd b lo NB w w' → Q .normal a' w')
    (ret : ∀ a' w', more ≠ [] → a'.defers = [] → IsErr true (gt a' 6) → Only (fun j => j = X.rb ∨ j = b) w w' → Upd b lo NB w w' → Q .ret a' w') : (gTgd X.G Y T s k m gs c).wp X.P Q a w := by
  have hsz := hst.size
  have hbl := hb.lt
  have hrl := hst.st.lt
  have hrb := hst.rb_gt
  have hrs := X.rsl
  have nil0 : FdsD X.D X.ver X.flex gs b w.heap.size w.heap.size [] w := fun g hg => ⟨fun _ => hnil g hg, fun s hs => by cases hs⟩
  refine wp_seq (wp_reg (stV (by omega) (runs_move _) fun a1 k1 => stE ?_))
  have g1 : Ag (Ch X.M0 k m) a a1 := ⟨by rw [k1.size], by rw [k1.defers], fun j hj => by unfold Ch at hj; rw [k1.old j (by omega)]⟩
  have st1 := hst.act g1 h9 (by omega) (by omega)
  have s1 : gt a1 s = .pointer (some ⟨b, 0, none⟩) := (g1.keep s (by unfold Ch; omega)).trans hs
  refine wp_cond (t := X.flex) (by rw [evT, k1.new, evT, hst.fl hfx]) ?_
  cases hf : X.flex with
  | false =>
    rw [if_neg (by decide)]
    obtain rfl := hfl hf
    rcases hpre with ⟨rfl, hp⟩ | ⟨rfl, rfl, hp⟩
    · rw [hf] at hp
      have hp : bs ++ more = [] := hp
      obtain ⟨rfl, rfl⟩ := List.append_eq_nil_iff.1 hp
      exact wp_skip (good a1 w nn rfl st1 (Only.refl _ _) (Upd.same rfl) ⟨w.heap.size, .map none, 0, Nat.le_refl _, Nat.le_refl _, nil0, htv, .inl ⟨rfl, rfl⟩, Nat.zero_le _⟩)
    · exact wp_skip (fail a1 w nn hp st1 (Only.refl _ _) (Upd.same rfl))
  | true =>
    rw [if_pos rfl]
    rw [hf] at hpre
    refine wp_seq (wp_reg (stC (R := UvrP X.D X.rb w bs bad) (by rw [st1.size]; omega) hY.uv.1 (argRd st1) ((hY.uv.2 X.D X.rb w nn bs bad st1.st st1.lim).mono fun e w' h => by obtain ⟨x, rfl, k⟩ := h; exact ⟨_, rfl, x, rfl, k⟩) fun v1 w2 a2 hR1 k2 => stV (by rw [k2.size, st1.size]; omega) (runs_assign _) fun a3 k3 => stE ?_))
    obtain ⟨x, nn1, bs1, bad1, e1, hx, o1, r1, l1, hu⟩ := uvS_one hR1
    obtain rfl : v1 = .int .u32 x := by simpa using e1
    rw [evT, k2.new] at k3
    have g3 : Ag (Ch X.M0 k m) a1 a3 := ⟨by rw [k3.size, k2.size], by rw [k3.defers, k2.defers], fun j hj => by unfold Ch at hj; rw [k3.old j (by omega), k2.old j (by omega)]⟩
    have st3 : St X a3 w2 nn1 bs1 bad1 := (st1.act g3 h9 (by omega) (by omega)).world r1 l1 (o1.mono fun q _ h => by have h : q = X.rb := h; omega)
    have s3 : gt a3 s = .pointer (some ⟨b, 0, none⟩) := (g3.keep s (by unfold Ch; omega)).trans s1
    have hbw : w2.heap[b]? = w.heap[b]? := o1.block b hbl hbr
    have hcell : ∀ o, w2.cell? ⟨b, o, none⟩ = w.cell? ⟨b, o, none⟩ := fun o => World.cell?_of_block (w := w) hbw
    have o1' : Only (fun j => j = X.rb ∨ j = b) w w2 := o1.mono fun _ _ h => .inl h
    have hsz2 := o1.size
    have hp2 := uv_pre (n := rs.length) (t := encTags rs) hR.len hpre hu
    have hJ : TJ X K gs s k b NB oT lo w rs more a3 w2 x x := by
      refine ⟨nn1, bs1, bad1, st3, k3.new, hx, s3, hb.keep hbw, o1', Upd.same hbw, ?_⟩
      rcases hp2 with ⟨_, h2, h3, h4⟩ | ⟨h2, h3, h4, h5⟩
      · exact .inl ⟨h2, [], rs, w.heap.size, .map none, 0, rfl, h3, h4, Nat.le_refl _, hsz2, fun g hg => ⟨fun _ => (hcell g.o).trans (hnil g hg), fun s hs => by cases hs⟩, (hcell oT).trans htv, .inl ⟨rfl, rfl⟩, Nat.zero_le _, fun _ => rfl⟩
      · exact .inr ⟨h2, h4, h5⟩
    refine gTgL_wp hX hY hgs hG hR hU hbl hrl hbr hbD h9 hsk hk hm hN hJ (fun a4 w4 hJ4 => ?_) ret
    obtain ⟨nn4, bs4, bad4, st4, _, _, _, _, o4, u4, hc4⟩ := hJ4
    rcases hc4 with ⟨rfl, ds, rr, B, tv, n, h1, h2, h3, h4, h5, h6, h7, h8, h9', _⟩ | ⟨rfl, rfl, h2⟩
    · have hrr : rr = [] := List.eq_nil_of_length_eq_zero h2.symm
      subst hrr
      have h3 : bs4 ++ more = [] := h3
      obtain ⟨rfl, rfl⟩ := List.append_eq_nil_iff.1 h3
      rw [List.append_nil] at h1
      subst h1
      refine good a4 w4 nn4 rfl st4 o4 u4 ⟨B, tv, n, h4, h5, ?_, h7, h8, h9'⟩
      exact h6
    · exact fail a4 w4 nn4 h2 st4 o4 u4

/-! ### a whole message -/
/-- What stands behind the fields. -/
def gTailT (G : Gn) (Y : TGn) (T s k m : Nat) (gs : List TG) (c : Code) : Code := .seq (gTgd G Y T s k m gs (pc c [0])) (gTail G (m + (16 + TG.ts gs)) (pc c [1]))

/-- What the fields and the tags come to. -/
structure RetT (X : RX) (K : TypeId) (gs : List TG) (oT : Nat) (mm : M) (b NB : Nat) (w : World) (x : Val) (rs : List (Nat × List UInt8)) (more : List UInt8) (Q : Exit → Act → World → Prop) : Prop where
  good : ∀ a' w', more = [] → a'.defers = [] → gt a' 6 = .nilIface → Only (fun j => j = X.rb ∨ j = b) w w' → Upd b 1 NB w w' → (∃ h2, h2 ≤ w'.heap.size ∧ Holds X.D mm w' w.heap.size h2 b 0 x ∧ TgsQ X.P K X.D X.ver X.flex gs b oT h2 rs w') → Q .ret a' w'
  bad : ∀ a' w', more ≠ [] → a'.defers = [] → IsErr true (gt a' 6) → Only (fun j => j = X.rb ∨ j = b) w w' → Upd b 1 NB w w' → Q .ret a' w'

theorem fieldsT_wp (hX : XOk X) {Y : TGn} (hY : YOk X.P X.G Y) {K : TypeId} {gs : List TG} (r : R) {T s k m b NB hi oT : Nat} {c0 c1 : Code} {a : Act} {w : World} {nn : Bool} {bs more : List UInt8} {x : Val} {rs : List (Nat × List UInt8)} (hr : r.ok X.P X.fx T 1 hi) (hA : At X r T s k m b 0 NB 1 hi a w nn bs false)
    (hgs : ∀ g ∈ gs, g.ok X.P X.fx T) (hG : GsOk gs oT hi NB) (hR : RsOk X gs rs) (hfx : X.fx = true)
    (hU : UnkC X.P K oT X.N s (k + r.k + 1) X.G.rs (m + r.t + 8) NB (gUnk X.G Y T s (k + r.k + 1) (m + r.t + 8) (pc (pc (pc (pc c1 [0]) [1, 0, 1]) [0, 0, 1, 0, 0]) ([1, 1, 0] ++ pth gs.length))))
    (hnil : ∀ g ∈ gs, w.cell? ⟨b, g.o, none⟩ = some (.slice none 0 0)) (htv : w.cell? ⟨b, oT, none⟩ = some (.map none)) (hfl : X.flex = false → rs = [])
    (hok : (r.m X.ver X.flex).w.ok = true) (hwf : wf (r.m X.ver X.flex).w x) (hbs : bs ++ more = enc (r.m X.ver X.flex).w x ++ tgB X.flex rs)
    (h1 : 1 ≤ hi) (h9 : 9 ≤ X.b9 ∧ X.b9 < k) (hsk : s < k) (hk : k + r.k + 2 + TG.ks gs ≤ X.M0) (hm : X.M0 ≤ m) (hN : m + r.t + 16 + TG.ts gs < X.N)
    (hQ : RetT X K gs oT (r.m X.ver X.flex) b NB w x rs more Q) : (gR X.G r T s k m (some fun _ => gTailT X.G Y T s (k + r.k) (m + r.t) gs c1) c0).wp X.P Q a w := by
  have hb := hA.blk
  have hnr := hA.nrb
  have hM := hX.N0
  have hgs1 : ∀ g ∈ gs, hi ≤ g.o := fun g hg => (hG.pl g hg).1
  have hgT : hi ≤ oT := hG.plT.1
  have hcl := R.cells_le (ver := X.ver) (flex := X.flex) hr
  have hrb := hA.st.rb_gt
  have hrl := hA.st.st.lt
  have hbl := hb.lt
  have hdec := dec_enc (r.m X.ver X.flex).w x (tgB X.flex rs) hok hwf
  -- behind the fields
  have rest : ∀ a' w' bs' nn' bad', Ag (Ch X.M0 k m) a a' → Only (fun j => j = X.rb ∨ j = b) w w' → Upd b 1 hi w w' → St X a' w' nn' bs' bad' →
      ((bad' = false ∧ bs' ++ more = tgB X.flex rs ∧ Holds X.D (r.m X.ver X.flex) w' w.heap.size w'.heap.size b 0 x) ∨ (bad' = true ∧ bs' = [] ∧ more ≠ [])) →
      (gTailT X.G Y T s (k + r.k) (m + r.t) gs c1).wp X.P Q a' w' := by
    intro a' w' bs' nn' bad' g' o' u' st' hc
    have hb' : Blk w' b NB := u'.blk hb
    have hsz' := o'.size
    refine wp_seq (gTgd_wp hX hY (K := K) (gs := gs) (b := b) (NB := NB) (oT := oT) (lo := hi) (rs := rs) (more := more) hgs hG hR hU hfx st' ((g'.keep s (by unfold Ch; omega)).trans hA.sp) hb' hnr hA.nD (by omega) (by omega) (by omega) (by omega) (by omega)
      (fun g hg => (u'.cell hb (.inr (hgs1 g hg))).trans (hnil g hg)) ((u'.cell hb (.inr hgT)).trans htv) hfl ?_ ?_ ?_ ?_)
    · rcases hc with ⟨h, h2, _⟩ | h
      · exact .inl ⟨h, h2⟩
      · exact .inr h
    · intro a2 w2 nn2 hm2 st2 o2 u2 hT2
      refine gTail_wp hX st2 (by omega) (by omega) fun a3 w3 q1 q2 q3 => ?_
      have hH : Holds X.D (r.m X.ver X.flex) w' w.heap.size w'.heap.size b 0 x := by
        rcases hc with ⟨_, _, h⟩ | ⟨_, _, h⟩
        · exact h
        · exact absurd hm2 h
      have hsz2 := o2.size
      have hb2 : b < w2.heap.size := by omega
      have k3 : ∀ q, q < w2.heap.size → w3.heap[q]? = w2.heap[q]? := fun q hq => q3.block q hq id
      have hH3 : Holds X.D (r.m X.ver X.flex) w3 w.heap.size w'.heap.size b 0 x := by
        refine (hH.keep (o2.block _ (by omega) (by have := hA.nD.2; omega)) (fun q q1 q2 => o2.block q q2 (by omega)) fun j hj => ?_).keep (k3 _ (by omega)) (fun q q1 q2 => k3 q (by omega)) fun j hj => World.cell?_of_block (w := w2) (k3 b hb2)
        exact u2.cell hb' (.inl (by omega))
      refine hQ.good a3 w3 hm2 q1 q2 (o'.trans (o2.trans (q3.none _))) ((u'.mono (Nat.le_refl _) (by have := hG.plT.2; omega)).trans ((u2.mono h1 (Nat.le_refl _)).trans (Upd.same (k3 b hb2)))) ⟨w'.heap.size, by have := q3.size; omega, hH3, ?_⟩
      obtain ⟨B, tv, n, t1, t2, t3, t4, t5, t6⟩ := hT2
      have hDl : X.D < w2.heap.size := by omega
      refine ⟨B, tv, n, t1, by have := q3.size; omega, fun g hg => ⟨fun h => (World.cell?_of_block (w := w2) (k3 b hb2)).trans ((t3 g hg).1 h), fun s hs => ?_⟩, (World.cell?_of_block (w := w2) (k3 b hb2)).trans t4, ?_, t6⟩
      · obtain ⟨y, lo, hi', y1, y2, y3, y4, y5⟩ := (t3 g hg).2 s hs
        exact ⟨y, lo, hi', y1, y2, y3, y4, y5.keep (k3 _ hDl) (fun q q1 q2 => k3 q (by omega)) fun j hj => World.cell?_of_block (w := w2) (k3 b hb2)⟩
      · exact t5.keepO q3 id hDl fun _ _ => id
    · intro a2 w2 nn2 hm2 st2 o2 u2
      refine gTail_wp hX st2 (by omega) (by omega) fun a3 w3 q1 q2 q3 => ?_
      have hsz2 := o2.size
      exact hQ.bad a3 w3 hm2 q1 q2 (o'.trans (o2.trans (q3.none _))) ((u'.mono (Nat.le_refl _) (by have := hG.plT.2; omega)).trans ((u2.mono h1 (Nat.le_refl _)).trans (Upd.same (q3.block b (by omega) id))))
    · intro a2 w2 hm2 q1 q2 o2 u2
      exact hQ.bad a2 w2 hm2 q1 q2 (o'.trans o2) ((u'.mono (Nat.le_refl _) (by have := hG.plT.2; omega)).trans (u2.mono h1 (Nat.le_refl _)))
  refine R_reads hX r T s k m b 0 NB 1 hi _ c0 a w nn bs false hr hA Q ⟨?_, ?_, ?_⟩
  · intro a' w' x' bs' nn' q1 q2 q3 q4 q5 q6 q7
    show ∀ c : Code, (gTailT X.G Y T s (k + r.k) (m + r.t) gs c1).wp X.P Q a' w'
    intro _
    simp only [Nat.zero_add] at q5
    have he := dec_ext _ _ more _ _ q2
    rw [hbs, hdec] at he
    simp only [Option.some.injEq, Prod.mk.injEq] at he
    obtain ⟨rfl, he⟩ := he
    exact rest a' w' bs' nn' false q3 q4 q5 q6 (.inl ⟨rfl, he.symm, q7⟩)
  · intro a' w' q1 q3 q4 q5 q6
    show ∀ c : Code, (gTailT X.G Y T s (k + r.k) (m + r.t) gs c1).wp X.P Q a' w'
    intro _
    simp only [Nat.zero_add] at q5
    refine rest a' w' [] false true q3 q4 q5 q6 (.inr ⟨rfl, rfl, fun hm => ?_⟩)
    rcases q1 with h | h
    · cases h
    · rw [hm, List.append_nil] at hbs
      rw [hbs, hdec] at h; cases h
  · intro a' w' q1 q2 q3 q4 q5
    simp only [Nat.zero_add] at q5
    refine hQ.bad a' w' (fun hm => ?_) q2 q3 q4 (q5.mono (Nat.le_refl _) (by have := hG.plT.2; omega))
    rcases q1 with h | h
    · cases h
    · rw [hm, List.append_nil] at hbs
      rw [hbs, hdec] at h; cases h
end

/-- The code that reads a message with tagged lists (c1: what stands behind the fields). -/
def gReadT (G : Gn) (Y : TGn) (T PT DF i16 M0 : Nat) (n : Int) (r : R) (gs : List TG) (c1 c : Code) : Code :=
  .seq (reg [⟨some 6, .assign (.const .nilIface), none⟩] (pc c [0])) (.seq (gDef DF PT M0 (pc c [1, 0])) (.seq (gRdr G.rt (M0 + 2) (pc c [1, 1, 0]))
    (.seq (gLoad T 0 i16 0 8 (M0 + 4) (pc c [1, 1, 1, 0])) (.seq (gMove 8 (M0 + 8) (pc c [1, 1, 1, 1, 0]))
      (.seq (reg [⟨some (M0 + 9), .move (.tmp 8), none⟩, ⟨some (M0 + 10), .binOp .geq i16 (.tmp (M0 + 9)) (.const (.int .i16 n)) i16, none⟩, ⟨some 9, .assign (.tmp (M0 + 10)), none⟩] (pc c [1, 1, 1, 1, 1, 0]))
        (.seq (gMove 9 (M0 + 11) (pc c [1, 1, 1, 1, 1, 1, 0])) (.seq (gCopy 0 10 (M0 + 12) (pc c [1, 1, 1, 1, 1, 1, 1, 0])) (gR G r T 10 11 (M0 + 13) (some fun _ => gTailT G Y T 10 (11 + r.k) (M0 + 13 + r.t) gs c1) (pc c [1, 1, 1, 1, 1, 1, 1, 1])))))))))

/-- What the reading of a message with tags comes to (bs: octets that were written, perhaps cut: more is what has gone). -/
def ReadTP (P : Program) (K : TypeId) (n : Int) (r : R) (gs : List TG) (oT sz D b : Nat) (w : World) (ver : Int) (x : Val) (rs : List (Nat × List UInt8)) (more : List UInt8) (e : Ending) (w' : World) : Prop :=
  ∃ v, e = .returned v ∧ Only (· = b) w w' ∧ Blk w' b sz ∧
    ((more = [] ∧ v = .nilIface ∧ w'.cell? ⟨b, 0, none⟩ = some (.int .i16 ver) ∧ ∃ lo h2, w.heap.size ≤ lo ∧ h2 ≤ w'.heap.size ∧ Holds D (r.m ver (decide (ver ≥ n))) w' lo h2 b 0 x ∧ TgsQ P K D ver (decide (ver ≥ n)) gs b oT h2 rs w') ∨ (more ≠ [] ∧ ∃ t u, v = .iface t u))

/-- What such a message's reading rests on. -/
structure MsgT (P : Program) (G : Gn) (Y : TGn) (K : TypeId) (T PT DF i16 M0 NT sz hi oT : Nat) (n : Int) (r : R) (gs : List TG) (c1 : Code) (I : World → Prop) : Prop where
  ok : OkC P G.ok
  co : CompC P G.co I
  i32 : P.underlying G.i32 = some (.int .i32)
  rs : G.rs = 7
  rt : RdrT P G.rt
  i16o : One P i16
  f0 : FieldAt P T 0 0 i16 1
  def_ : DefC P DF sz (0 :: oT :: (gs.map (·.o) ++ r.nils.map (·.1)))
  ro : r.ok P true T 1 hi
  hi1 : 1 ≤ hi
  hio : hi ≤ sz
  szo : 1 ≤ sz
  y : YOk P G Y
  gsk : ∀ g ∈ gs, g.ok P true T
  gok : GsOk gs oT hi sz
  unk : UnkC P K oT NT 10 (11 + r.k + 1) 7 (M0 + 13 + r.t + 8) sz (gUnk G Y T 10 (11 + r.k + 1) (M0 + 13 + r.t + 8) (pc (pc (pc (pc c1 [0]) [1, 0, 1]) [0, 0, 1, 0, 0]) ([1, 1, 0] ++ pth gs.length)))
  M : M0 = 11 + r.k + 2 + TG.ks gs
  N : M0 + 13 + r.t + 16 + TG.ts gs < NT

/-- The tags that were written, outside of any reader. -/
structure RsD (ver : Int) (flex : Bool) (gs : List TG) (rs : List (Nat × List UInt8)) : Prop where
  up : upTags 0 rs
  len : rs.length < 4294967296
  ord : ∀ g ∈ gs, ∀ x ∈ rs, isK gs x.1 = false → g.key < x.1
  dec : ∀ g ∈ gs, ∀ s, (g.key, s) ∈ rs → ∃ x, dec (g.m ver flex).w s = some (x, [])

/-- A MESSAGE's READING, with tags. -/
theorem readFromT_calls {P : Program} {G : Gn} {Y : TGn} {K : TypeId} {T PT DF i16 M0 NT sz hi oT : Nat} {n : Int} {r : R} {gs : List TG} {c1 : Code} {I : World → Prop} (H : MsgT P G Y K T PT DF i16 M0 NT sz hi oT n r gs c1 I) {F : Nat} {fn : Func} (hfn : P.funcs[F]? = some fn) (c0 : Code)
    (hbody : fn.body = some (gReadT G Y T PT DF i16 M0 n r gs c1 c0)) (hres : fn.results = #[.tmp 6]) (hnt : fn.ntmps = NT)
    {w : World} {D b L : Nat} {nn : Bool} {A : Option Addr} {nA c : Nat} {bs : List UInt8} {ver : Int} (hb : Blk w b sz) (hs : Sp w D nn (.slice A nA c) bs) (hl : bs.length ≤ lim) (hDl : D < w.heap.size) (hbD : b ≠ D) (hL : L ≤ b) (hI : I w)
    (keep : ∀ w w', I w → Only (fun k => L ≤ k) w w' → I w') (hnil : ∀ q ∈ r.nils, w.cell? ⟨b, q.1, none⟩ = some (nilV q.2)) (hgn : ∀ g ∈ gs, w.cell? ⟨b, g.o, none⟩ = some (.slice none 0 0)) (htv : w.cell? ⟨b, oT, none⟩ = some (.map none)) (hver : w.cell? ⟨b, 0, none⟩ = some (.int .i16 ver))
    {x : Val} {rs : List (Nat × List UInt8)} {more : List UInt8} (hR : RsD ver (decide (ver ≥ n)) gs rs) (hfl : decide (ver ≥ n) = false → rs = []) (hok : (r.m ver (decide (ver ≥ n))).w.ok = true) (hwf : wf (r.m ver (decide (ver ≥ n))).w x) (hbs : bs ++ more = enc (r.m ver (decide (ver ≥ n))).w x ++ tgB (decide (ver ≥ n)) rs) :
    Calls P F #[.pointer (some ⟨b, 0, none⟩), .slice A nA c, .bool false] w (ReadTP P K n r gs oT sz D b w ver x rs more) := by
  refine calls_of_wp hfn hbody ?_
  have hNT := H.N
  have hM := H.M
  obtain ⟨a, ha⟩ : ∃ a : Act, a = { tmps := #[.pointer (some ⟨b, 0, none⟩), .slice A nA c, .bool false] ++ Array.replicate (fn.ntmps - (#[.pointer (some ⟨b, 0, none⟩), .slice A nA c, .bool false] : Array Value).size) undef, defers := [] } := ⟨_, rfl⟩
  rw [← ha]
  have asz : a.tmps.size = NT := by rw [ha]; simp [hnt]; omega
  have adf : a.defers = [] := by rw [ha]
  have a0 : gt a 0 = .pointer (some ⟨b, 0, none⟩) := by rw [ha]; exact gt_app _ _ 0 _ rfl
  have a1 : gt a 1 = .slice A nA c := by rw [ha]; exact gt_app _ _ 1 _ rfl
  have a2 : gt a 2 = .bool false := by rw [ha]; exact gt_app _ _ 2 _ rfl
  clear ha
  have hbl := hb.lt
  refine wp_seq (gNil_wp (by omega) fun a3 g3 _ => ?_)
  have s3 : a3.tmps.size = NT := g3.size.trans asz
  refine wp_seq (gDef_wp H.def_ ((g3.keep 0 (by omega)).trans a0) hb (Nat.le_refl _) (by omega) (by omega) fun a4 w4 g4 o4 u4 n4 => ?_)
  have s4 : a4.tmps.size = NT := g4.size.trans s3
  have hb4 : Blk w4 b sz := u4.blk hb
  have kD4 : w4.heap[D]? = w.heap[D]? := o4.block D hDl (fun e => hbD e.symm)
  have f4 : ∀ j, j < 3 → gt a4 j = gt a j := fun j hj => (g4.keep j (by unfold Tm; omega)).trans (g3.keep j (by omega))
  refine wp_seq (gRdr_wp H.rt ((f4 1 (by decide)).trans a1) (by omega) (by omega) fun a5 w5 g5 p5 o5 z5 r5 => ?_)
  have s5 : a5.tmps.size = NT := g5.size.trans s4
  have hb5 : Blk w5 b sz := hb4.keep (o5.block b hb4.lt id)
  have kD5 : w5.heap[D]? = w.heap[D]? := (o5.block D (Nat.lt_of_lt_of_le hDl o4.size) id).trans kD4
  have o5' : Only (· = b) w w5 := o4.trans (o5.none _)
  have rd5 : Rd D w4.heap.size w5 nn bs false := ⟨_, _, r5, hs.keep kD5, Nat.lt_of_lt_of_le hDl o4.size, fun h => by cases h⟩
  have hbr : b ≠ w4.heap.size := by have := o4.size; omega
  have kept5 : ∀ o, o ∈ (0 :: oT :: (gs.map (·.o) ++ r.nils.map (·.1))) → w5.cell? ⟨b, o, none⟩ = w.cell? ⟨b, o, none⟩ := fun o ho => (World.cell?_of_block (w := w4) (o5.block b hb4.lt id)).trans (n4 o ho)
  have nil5 : ∀ q ∈ r.nils, w5.cell? ⟨b, q.1, none⟩ = some (nilV q.2) := fun q hq => (kept5 q.1 (by simp only [List.mem_cons, List.mem_append]; exact .inr (.inr (.inr (List.mem_map_of_mem hq))))).trans (hnil q hq)
  have gn5 : ∀ g ∈ gs, w5.cell? ⟨b, g.o, none⟩ = some (.slice none 0 0) := fun g hg => (kept5 g.o (by simp only [List.mem_cons, List.mem_append]; exact .inr (.inr (.inl (List.mem_map_of_mem hg))))).trans (hgn g hg)
  have tv5 := (kept5 oT (by simp)).trans htv
  have ver5 : w5.cell? ⟨b, 0, none⟩ = some (.int .i16 ver) := (kept5 0 (by simp)).trans hver
  have f5 : ∀ j, j < 3 → gt a5 j = gt a j := fun j hj => (g5.keep j (by omega)).trans (f4 j hj)
  have df5 : a5.defers = [] := g5.defers.trans (g4.defers.trans (g3.defers.trans adf))
  have hI5 : I w5 := keep w w5 hI (o5'.mono fun k _ hk => by show L ≤ k; have : k = b := hk; omega)
  have hLr : L ≤ w4.heap.size := by have := o4.size; omega
  refine wp_seq (gLoad_wp (b := b) (off := 0) ((f5 0 (by decide)).trans a0) H.f0 H.i16o (by simpa using ver5) (by omega) (by omega) fun a7 g7 v7 => ?_)
  have s7 : a7.tmps.size = NT := g7.size.trans s5
  refine wp_seq (wp_reg (stV (by omega) (runs_move _) fun a8 k8 => stE ?_))
  have s8 : a8.tmps.size = NT := by rw [k8.size, s7]
  refine wp_seq (wp_reg (stV (by omega) (runs_move _) fun b1 k1 => stV (by rw [k1.size]; omega) (runs_cmp .geq _ (.inr (.inl ⟨rfl, rfl⟩)) (k := .i16) (p := ver) (q := n) (by rw [evT, k1.new, evT, k8.old 8 (by omega), v7]) rfl) fun b2 k2 => stV (by rw [k2.size, k1.size]; omega) (runs_assign _) fun b3 k3 => stE ?_))
  rw [evT, k2.new] at k3
  have t3 : b3.tmps.size = NT := by rw [k3.size, k2.size, k1.size, s8]
  refine wp_seq (wp_reg (stV (by omega) (runs_move _) fun b4 k4 => stE ?_))
  have t4 : b4.tmps.size = NT := by rw [k4.size, t3]
  refine wp_seq (gCopy_wp (by omega) (by omega) fun b5 g9 v9 => ?_)
  have t5 : b5.tmps.size = NT := g9.size.trans t4
  have low : ∀ j, j < 8 → gt b4 j = gt a5 j := fun j hj => by rw [k4.old j (by omega), k3.old j (by omega), k2.old j (by omega), k1.old j (by omega), k8.old j (by omega), g7.keep j (by omega)]
  let X : RX := { P := P, G := G, D := D, rb := w4.heap.size, ver := ver, fx := true, flex := decide (ver ≥ n), N := NT, M0 := M0, I := I, L := L, lrb := hLr, b9 := 9, b9l := Nat.le_refl 9, rsl := (by have := H.rs; omega), keep := keep }
  have hX : XOk X := ⟨H.ok, H.co, H.i32, Nat.le_refl 9, by show 9 < M0; omega⟩
  have st : St X b5 w5 nn bs false := by
    refine ⟨t5, ?_, ?_, ?_, ?_, fun _ => ?_, rd5, hl, hI5⟩
    · rw [g9.defers, k4.defers, k3.defers, k2.defers, k1.defers, k8.defers, g7.defers, df5]
    · exact (g9.keep 2 (by omega)).trans ((low 2 (by decide)).trans ((f5 2 (by decide)).trans a2))
    · show gt b5 G.rs = _
      rw [H.rs]
      exact (g9.keep 7 (by omega)).trans ((low 7 (by decide)).trans p5)
    · show gt b5 8 = _
      rw [g9.keep 8 (by omega), k4.old 8 (by omega), k3.old 8 (by omega), k2.old 8 (by omega), k1.old 8 (by omega), k8.old 8 (by omega), v7]
    · show gt b5 9 = _
      rw [g9.keep 9 (by omega), k4.old 9 (by omega), k3.new]
  have oAll : ∀ w', Only (fun j => j = w4.heap.size ∨ j = b) w5 w' → Only (· = b) w w' := fun w' h => by
    have h1 : Only (fun j => j = w4.heap.size ∨ j = b) w w' := (o5'.mono (T := fun j => j = w4.heap.size ∨ j = b) fun _ _ h => .inr h).trans h
    exact h1.mono fun k hk h => by
      rcases h with rfl | h
      · exfalso; have := o4.size; omega
      · exact h
  have hU := H.unk
  rw [← H.rs] at hU
  refine fieldsT_wp (X := X) hX H.y (K := K) (gs := gs) r (T := T) (s := 10) (k := 11) (m := M0 + 13) (b := b) (NB := sz) (hi := hi) (oT := oT) (c1 := c1) (x := x) (rs := rs) (more := more) H.ro ⟨st, v9.trans ((low 0 (by decide)).trans ((f5 0 (by decide)).trans a0)), hb5, by have := H.hio; omega, fun q hq => by simpa using nil5 q hq, hbr, ⟨hL, hbD⟩, by show 9 ≤ 9 ∧ 9 < 11; omega, by decide, by show 11 + r.k ≤ M0; omega, by show M0 ≤ M0 + 13; omega, by show M0 + 13 + r.t ≤ NT; omega⟩
    H.gsk H.gok ⟨hR.up, hR.len, hR.ord, hR.dec⟩ rfl hU gn5 tv5 hfl hok hwf hbs H.hi1 (by show 9 ≤ 9 ∧ 9 < 11; omega) (by omega) (by show 11 + r.k + 2 + TG.ks gs ≤ M0; omega) (by show M0 ≤ M0 + 13; omega) (by show M0 + 13 + r.t + 16 + TG.ts gs < NT; omega) ⟨?_, ?_⟩
  · intro a' w' hm q1 q2 q3 q4 hH
    refine bodyPost_ret (results_tmp hres _ _ _) q1 ?_
    have e6 : a'.tmps.getD 6 undef = .nilIface := q2
    rw [e6]
    obtain ⟨h2, hle, hH1, hH2⟩ := hH
    exact ⟨_, rfl, oAll w' q3, q4.blk hb5, .inl ⟨hm, rfl, (q4.cell hb5 (.inl (by decide))).trans ver5, w5.heap.size, h2, o5'.size, hle, hH1, hH2⟩⟩
  · intro a' w' hm q1 q2 q3 q4
    refine bodyPost_ret (results_tmp hres _ _ _) q1 ?_
    have e6 : ∃ t u, a'.tmps.getD 6 undef = .iface t u := q2
    obtain ⟨t, u, e6⟩ := e6
    rw [e6]
    exact ⟨_, rfl, oAll w' q3, q4.blk hb5, .inr ⟨hm, t, u, rfl⟩⟩
end Go.Proofs.YtpefipjgcpchaaaGreatDoorR.Kf

namespace Go.Proofs.YtpefipjgcpchaaaGreatDoorR.Kf
set_option linter.unusedVariables false
set_option linter.unusedSimpArgs false
open Go Go.RowKit

/-- What else a writing leaves alone. -/
structure FrOk (Fr : World → World → Prop) : Prop where
  refl : ∀ w, Fr w w
  trans : ∀ {a b c : World}, Fr a b → Fr b c → Fr a c
  none : ∀ {a b : World}, Only (fun _ => False) a b → Fr a b
/-- Blocks of other things than octets stay. -/
def FrU (U : Nat) (w w' : World) : Prop := ∀ j, j < w.heap.size → (∀ cur, w.heap[j]? ≠ some (.cells cur U (0, 0))) → w'.heap[j]? = w.heap[j]?
theorem frU_ok (U : Nat) : FrOk (FrU U) where
  refl := fun _ _ _ _ => rfl
  trans := fun {a b c} h k j hj hn => by
    have e := h j hj hn
    have hb : j < b.heap.size := by
      rw [Array.getElem?_eq_getElem hj] at e
      exact (Array.getElem?_eq_some_iff.1 e).1
    exact (k j hb (fun cur => by rw [e]; exact hn cur)).trans e
  none := fun h j hj _ => h.block j hj id
theorem frT_ok : FrOk (fun _ _ => True) := ⟨fun _ => trivial, fun _ _ => trivial, fun _ => trivial⟩
/-- What a call that writes only the octets' own block leaves. -/
theorem frU_own {U base : Nat} {w w' : World} {dst : Value} {ds : List UInt8} (hown : Own U base w dst ds) (h : Only (fun j => dst.ownBlock = some j) w w') : FrU U w w' := by
  intro j hj hn
  refine h.block j hj fun e => ?_
  rcases hown.2 with ⟨rfl, _⟩ | ⟨g, cap, cur, rfl, _, hg, _⟩
  · cases e
  · have : g = j := by simpa [Value.ownBlock] using e
    subst this
    exact hn cur hg

/-- The functions that write, with what they leave alone. -/
def UvF (P : Program) (U F : Nat) (Fr : World → World → Prop) : Prop := Plain P F ∧ ∀ (base : Nat) (w : World) (dst : Value) (ds : List UInt8) (n : Nat), Own U base w dst ds → n < 4294967296 → base ≤ w.heap.size → ds.length + 10 ≤ lim2 →
  Calls P F #[dst, .int .u32 n] w fun e w' => ∃ v, e = .returned v ∧ (Own U base w' v (ds ++ uvEnc n) ∧ Only (fun j => base ≤ j) w w' ∧ Fr w w')
def LnF (P : Program) (U F : Nat) (nl : Bool) (Fr : World → World → Prop) : Prop := Plain P F ∧ ∀ (base : Nat) (w : World) (dst : Value) (ds : List UInt8) (n : Nat) (isNil : Bool), Own U base w dst ds → n ≤ 2147483646 → (isNil = true → nl = true) →
  base ≤ w.heap.size → ds.length + 10 ≤ lim2 →
  Calls P F (if nl then #[dst, .int .i64 n, .bool isNil] else #[dst, .int .i64 n]) w fun e w' => ∃ v, e = .returned v ∧ (Own U base w' v (ds ++ cntEnc true 4 (if isNil then none else some n)) ∧ Only (fun j => base ≤ j) w w' ∧ Fr w w')
def ApF (P : Program) (U F : Nat) (k : RK) (Fr : World → World → Prop) : Prop := Plain P F ∧ ∀ (D base : Nat) (w : World) (dst : Value) (ds : List UInt8) (lo hi : Nat) (cs : List Value) (x : Val), Own U base w dst ds → k.leaf D w lo hi cs x → wf k.m.w x → D < base →
  base ≤ w.heap.size → ds.length + (enc k.m.w x).length + 16 ≤ lim2 →
  Calls P F #[dst, valOf k cs] w fun e w' => ∃ v, e = .returned v ∧ (Own U base w' v (ds ++ enc k.m.w x) ∧ Only (fun j => base ≤ j) w w' ∧ Fr w w')
theorem UvC.t {P : Program} {U F : Nat} (h : UvC P U F) : UvF P U F (fun _ _ => True) := ⟨h.1, fun base w dst ds n h1 h2 h3 h4 => (h.2 base w dst ds n h1 h2 h3 h4).mono fun e w' ⟨v, a, b, c⟩ => ⟨v, a, b, c, trivial⟩⟩
theorem ALenC.t {P : Program} {U F : Nat} {nl : Bool} (h : ALenC P U F true nl) : LnF P U F nl (fun _ _ => True) := ⟨h.1, fun base w dst ds n i h1 h2 h3 h4 h5 => (h.2 base w dst ds n i h1 h2 h3 h4 h5).mono fun e w' ⟨v, a, b, c⟩ => ⟨v, a, b, c, trivial⟩⟩
theorem AppC.t {P : Program} {U F : Nat} {k : RK} (h : AppC P U F k) : ApF P U F k (fun _ _ => True) := ⟨h.1, fun D base w dst ds lo hi cs x h1 h2 h3 h4 h5 h6 => (h.2 D base w dst ds lo hi cs x h1 h2 h3 h4 h5 h6).mono fun e w' ⟨v, a, b, c⟩ => ⟨v, a, b, c, trivial⟩⟩

/-- A thing of a tagged list: 16 octets in a row, a part. -/
inductive EA
  | v (u ub F : Nat)
  | s (T : Nat) (b : A)
def EA.k : EA → Nat
  | .v _ _ _ => 2
  | .s _ b => 2 + b.k
def EA.t : EA → Nat
  | .v _ _ _ => 8
  | .s _ b => 4 + b.t
def EA.m (ver : Int) (flex : Bool) : EA → M
  | .v _ _ _ => .prim .uuid
  | .s _ b => b.m ver flex
def EA.code (G : Hn) (TS ks kv ctr m : Nat) : EA → Code → Code
  | .v u ub F, c => .seq (gCopy ctr kv m (pc c [0])) (.seq (reg [⟨some (m + 1), .move (.tmp ks), none⟩, ⟨some (m + 2), .move (.tmp kv), none⟩, ⟨some (m + 3), .indexAddr TS (.tmp (m + 1)) (.tmp (m + 2)), none⟩, ⟨some (m + 4), .load u (.tmp (m + 3)), none⟩, ⟨some (kv + 1), .alloc ub, none⟩, ⟨none, .store ub (.tmp (kv + 1)) (.tmp (m + 4)), none⟩] (pc c [1, 0])) (gAppB G F u ub (kv + 1) (m + 5) (pc c [1, 1])))
  | .s T b, c => .seq (gCopy ctr kv m (pc c [0])) (.seq (reg [⟨some (m + 1), .move (.tmp ks), none⟩, ⟨some (m + 2), .move (.tmp kv), none⟩, ⟨some (m + 3), .indexAddr TS (.tmp (m + 1)) (.tmp (m + 2)), none⟩, ⟨some (kv + 1), .assign (.tmp (m + 3)), none⟩] (pc c [1, 0])) (gA G b T (kv + 1) (kv + 2) (m + 4) none (pc c [1, 1])))
def EA.ok (P : Program) (U : Nat) (q fx : Bool) (Fr : World → World → Prop) (zs : List Value) : EA → Prop
  | .v u ub F => ApF P U F (.prim .uuid) Fr ∧ BxT P ub 16 ∧ Ld P u (.prim .uuid) ∧ zs.length = 16
  | .s T b => b.ok P U q fx T ∧ ∀ w w', Fr w w'

section
variable {X : AX} {Q : Exit → Act → World → Prop} {Fr : World → World → Prop}

/-- As Writes, with what is left alone. -/
def WritesF (X : AX) (Fr : World → World → Prop) (c : Code) (bs : List UInt8) (k m : Nat) (a : Act) (w : World) (ds : List UInt8) : Prop :=
  ∀ Q : Exit → Act → World → Prop, (∀ a' w', Ag (Cw X.M0 k m) a a' → Only (fun j => X.base ≤ j) w w' → Fr w w' → SA X a' w' (ds ++ bs) → Q .normal a' w') → c.wp X.P Q a w

theorem uvF_wp {Uv key m : Nat} {c0 : Code} (hU : UvF X.P X.G.u8 Uv Fr) {a : Act} {w : World} {ds : List UInt8} (hst : SA X a w ds) (hkey : key < 4294967296) (hl : ds.length + 10 ≤ lim2) (hm : 6 < m) (hN : m + 2 ≤ X.N)
    (h : ∀ a' w', Ag (fun j => j = 1 ∨ (m ≤ j ∧ j < m + 2)) a a' → Only (fun j => X.base ≤ j) w w' → Fr w w' → SA X a' w' (ds ++ uvEnc key) → Q .normal a' w') :
    (reg [⟨some m, .move (.tmp 1), none⟩, ⟨some (m + 1), .call ⟨.value (.func Uv), #[.tmp m, .const (.int .u32 key)], #[X.G.sl, X.G.u32]⟩, none⟩, ⟨some 1, .assign (.tmp (m + 1)), none⟩] c0).wp X.P Q a w := by
  have hfs := X.fs_le
  have hsz := hst.size
  refine wp_reg (stV (by omega) (runs_move _) fun a1 k1 => stC (R := fun e w' => ∃ v, e = .returned v ∧ (Own X.G.u8 X.base w' v (ds ++ uvEnc key) ∧ Only (fun j => X.base ≤ j) w w' ∧ Fr w w')) (by rw [k1.size]; omega) hU.1 (args2c k1.new)
    ((hU.2 X.base w _ ds key hst.own hkey hst.base hl).mono fun e w' ⟨v, h, k⟩ => ⟨v, h, v, rfl, k⟩) fun v1 w1 a2 hR k2 => stV (by rw [k2.size, k1.size]; omega) (runs_assign _) fun a3 k3 => stE ?_)
  obtain ⟨v, e, h1, h2, h3⟩ := hR
  obtain rfl : v1 = v := by simpa using e
  rw [evT, k2.new] at k3
  have g3 : Ag (fun j => j = 1 ∨ (m ≤ j ∧ j < m + 2)) a a3 := ⟨by rw [k3.size, k2.size, k1.size], by rw [k3.defers, k2.defers, k1.defers], fun j hj => by rw [k3.old j (by omega), k2.old j (by omega), k1.old j (by omega)]⟩
  exact h a3 w1 g3 h2 h3 (hst.next (k := X.fs + 1) (m := m) (g3.mono fun j hj => by unfold Cw; omega) (by omega) hm (by rw [k3.new]; exact h1) h2)

theorem lenF_wp {nl : Bool} {Fc Fp TS ks m : Nat} {c0 : Code} {p : Option Addr} {n c : Nat} (hT : ∃ e, X.P.underlying TS = some (.slice e)) (hF : LnF X.P X.G.u8 Fc nl Fr) (hfx : X.fx = true) (hfl : X.flex = true) {a : Act} {w : World} {ds : List UInt8} (hst : SA X a w ds)
    (hv : gt a ks = .slice p n c) (hn : n ≤ 2147483646) (hl : ds.length + 10 ≤ lim2) (h6 : 6 < m) (hkm : ks < m) (h1 : ks ≠ 1) (hN : m + (1 + lenT nl + lenT nl) ≤ X.N)
    (h : ∀ a' w', Ag (fun j => j = 1 ∨ (m ≤ j ∧ j < m + (1 + lenT nl + lenT nl))) a a' → Only (fun j => X.base ≤ j) w w' → Fr w w' → SA X a' w' (ds ++ cntEnc true 4 (if nl && p.isNone then none else some n)) → Q .normal a' w') : (gALen2 X.G TS ks m nl Fc Fp c0).wp X.P Q a w := by
  have hfs := X.fs_le
  have hsz := hst.size
  refine wp_seq (wp_reg (stV (by omega) (runs_move _) fun a1 k1 => stE ?_))
  refine wp_cond_true (by rw [evT, k1.new, evT, hst.fl hfx, hfl]) ?_
  have e1 : gt a1 1 = gt a 1 := k1.old 1 (by omega)
  have v1 : gt a1 ks = .slice p n c := (k1.old ks (by omega)).trans hv
  have s1 : a1.tmps.size = X.N := k1.size.trans hsz
  have fin : ∀ v w6 a6 a5 (x : Nat), Own X.G.u8 X.base w6 v (ds ++ cntEnc true 4 (if nl && p.isNone then none else some n)) → Only (fun j => X.base ≤ j) w w6 → Fr w w6 → Ag (fun j => m ≤ j ∧ j < m + (1 + lenT nl + lenT nl)) a a5 → Nx a5 1 v a6 → Q .normal a6 w6 := by
    intro v w6 a6 a5 _ h1 h2 h3 g5 k6
    have g6 : Ag (fun j => j = 1 ∨ (m ≤ j ∧ j < m + (1 + lenT nl + lenT nl))) a a6 := ⟨by rw [k6.size, g5.size], by rw [k6.defers, g5.defers], fun j hj => by rw [k6.old j (by omega), g5.keep j (by omega)]⟩
    exact h a6 w6 g6 h2 h3 (hst.next (k := X.fs + 1) (m := m) (g6.mono fun j hj => by unfold Cw; omega) (by omega) h6 (by rw [k6.new]; exact h1) h2)
  cases nl with
  | false =>
    simp only [lenT, Bool.false_eq_true, if_false] at hN fin
    show (reg _ _).wp _ _ _ _
    refine wp_reg (stV (by omega) (runs_move _) fun a2 k2 => stV (v := .slice p n c) (by rw [k2.size]; omega) (by have := runs_move (P := X.P) (a := a2) (w := w) (.tmp ks); rwa [evT, k2.old ks (by omega), v1] at this) fun a3 k3 => stV (by rw [k3.size, k2.size]; omega) (runs_len hT k3.new) fun a4 k4 => ?_)
    have hc := hF.2 X.base w _ ds n false hst.own hn (by simp) hst.base hl
    simp only [Bool.false_eq_true, if_false] at hc
    refine stC (R := fun e w' => ∃ v, e = .returned v ∧ (Own X.G.u8 X.base w' v (ds ++ cntEnc true 4 (some n)) ∧ Only (fun j => X.base ≤ j) w w' ∧ Fr w w')) (by rw [k4.size, k3.size, k2.size]; omega) hF.1 (args2 (x := gt a 1) (y := .int .i64 (n : Nat)) (by rw [k4.old _ (by omega), k3.old _ (by omega), k2.new]; exact e1) k4.new) (hc.mono fun e w' ⟨v, h, k⟩ => ⟨v, h, v, rfl, k⟩) fun v5 w5 a5 hR k5 => stV (by rw [k5.size, k4.size, k3.size, k2.size]; omega) (runs_assign _) fun a6 k6 => stE ?_
    obtain ⟨v, e, q1, q2, q3⟩ := hR
    obtain rfl : v5 = v := by simpa using e
    rw [evT, k5.new] at k6
    exact fin v5 w5 a6 a5 0 q1 q2 q3 ⟨by rw [k5.size, k4.size, k3.size, k2.size, k1.size], by rw [k5.defers, k4.defers, k3.defers, k2.defers, k1.defers], fun j hj => by rw [k5.old j (by omega), k4.old j (by omega), k3.old j (by omega), k2.old j (by omega), k1.old j (by omega)]⟩ k6
  | true =>
    simp only [lenT, if_true] at hN fin
    show (reg _ _).wp _ _ _ _
    refine wp_reg (stV (by omega) (runs_move _) fun a2 k2 => stV (v := .slice p n c) (by rw [k2.size]; omega) (by have := runs_move (P := X.P) (a := a2) (w := w) (.tmp ks); rwa [evT, k2.old ks (by omega), v1] at this) fun a3 k3 => stV (by rw [k3.size, k2.size]; omega) (runs_len hT k3.new) fun a4 k4 =>
      stV (v := .slice p n c) (by rw [k4.size, k3.size, k2.size]; omega) (by have := runs_move (P := X.P) (a := a4) (w := w) (.tmp ks); rwa [evT, k4.old ks (by omega), k3.old ks (by omega), k2.old ks (by omega), v1] at this) fun a5 k5 => stV (by rw [k5.size, k4.size, k3.size, k2.size]; omega) (runs_isNil hT k5.new) fun a6 k6 => ?_)
    have hc := hF.2 X.base w _ ds n p.isNone hst.own hn (fun _ => rfl) hst.base hl
    rw [if_pos rfl] at hc
    refine stC (R := fun e w' => ∃ v, e = .returned v ∧ (Own X.G.u8 X.base w' v (ds ++ cntEnc true 4 (if p.isNone then none else some n)) ∧ Only (fun j => X.base ≤ j) w w' ∧ Fr w w')) (by rw [k6.size, k5.size, k4.size, k3.size, k2.size]; omega) hF.1
      (args3 (x := gt a 1) (y := .int .i64 (n : Nat)) (z := .bool p.isNone) (by rw [k6.old _ (by omega), k5.old _ (by omega), k4.old _ (by omega), k3.old _ (by omega), k2.new]; exact e1) (by rw [k6.old _ (by omega), k5.old _ (by omega), k4.new]) k6.new) (hc.mono fun e w' ⟨v, h, k⟩ => ⟨v, h, v, rfl, k⟩) fun v7 w7 a7 hR k7 => stV (by rw [k7.size, k6.size, k5.size, k4.size, k3.size, k2.size]; omega) (runs_assign _) fun a8 k8 => stE ?_
    obtain ⟨v, e, q1, q2, q3⟩ := hR
    obtain rfl : v7 = v := by simpa using e
    rw [evT, k7.new] at k8
    exact fin v7 w7 a8 a7 0 (by simpa using q1) q2 q3 ⟨by rw [k7.size, k6.size, k5.size, k4.size, k3.size, k2.size, k1.size], by rw [k7.defers, k6.defers, k5.defers, k4.defers, k3.defers, k2.defers, k1.defers], fun j hj => by rw [k7.old j (by omega), k6.old j (by omega), k5.old j (by omega), k4.old j (by omega), k3.old j (by omega), k2.old j (by omega), k1.old j (by omega)]⟩ k8

theorem rangeF_wp (hFr : FrOk Fr) {TS ks kv m bt c : Nat} {p : Option Addr} {em : M} {vs : List Val} {body : Code → Code} {c0 : Code} (hT : ∃ e, X.P.underlying TS = some (.slice e)) {a0 : Act} {w0 : World} {ds : List UInt8} (hst0 : SA X a0 w0 ds) (hv : gt a0 ks = .slice p vs.length c)
    (hn : vs.length ≤ 2147483647) (h6 : X.fs < ks) (hkv : ks < kv) (hk : kv ≤ X.M0) (hm : X.M0 ≤ m) (hN : m + 5 + bt ≤ X.N) (hl : ds.length + ((vs.map (enc em.w)).flatten).length + 16 ≤ lim2)
    (hbody : ∀ c a w ds' i v, vs[i]? = some v → SA X a w ds' → gt a (m + 2) = .int .i64 (i : Nat) → Ag (Cw X.M0 kv m) a0 a → Only (fun j => X.base ≤ j) w0 w → ds'.length + (enc em.w v).length + 16 ≤ lim2 → ∀ Q,
      (∀ a' w', Ag (Cw X.M0 kv (m + 4)) a a' → Only (fun j => X.base ≤ j) w w' → Fr w w' → SA X a' w' (ds' ++ enc em.w v) → Q .normal a' w') → (body c).wp X.P Q a w)
    (h : ∀ a' w', Ag (Cw X.M0 kv m) a0 a' → Only (fun j => X.base ≤ j) w0 w' → Fr w0 w' → SA X a' w' (ds ++ ((vs.map (enc em.w)).flatten)) → Q .normal a' w') : (gRange X.G TS ks m bt body c0).wp X.P Q a0 w0 := by
  have hfs := X.fs_le
  have hsz := hst0.size
  refine wp_seq (wp_reg (wpC_val (runs_move _) ?_))
  have z0 : m < a0.tmps.size := by omega
  rw [evT, hv]
  have g1 := (Ag.refl (Tm m) a0).put (d := m) (by unfold Tm; omega) z0 (.slice p vs.length c)
  have e1 : gt (a0.put (some m) (.slice p vs.length c)) m = .slice p vs.length c := by rw [gt_put z0, if_pos rfl]
  generalize a0.put (some m) (.slice p vs.length c) = a1 at g1 e1
  refine wpC_val (runs_len hT e1) ?_
  have z1 : m + 1 < a1.tmps.size := by rw [g1.size]; omega
  have g2 := g1.put (d := m + 1) (by unfold Tm; omega) z1 (.int .i64 (vs.length : Nat))
  have e2 : gt (a1.put (some (m + 1)) (.int .i64 (vs.length : Nat))) (m + 1) = .int .i64 (vs.length : Nat) := by rw [gt_put z1, if_pos rfl]
  generalize a1.put (some (m + 1)) (.int .i64 (vs.length : Nat)) = a2 at g2 e2
  refine wpC_val (runs_move _) (wpC_nil ?_)
  have z2 : m + 2 < a2.tmps.size := by rw [g2.size]; omega
  have g3 := g2.put (d := m + 2) (by unfold Tm; omega) z2 (a2.eval (.const (.int .i64 0)))
  have e3 : gt (a2.put (some (m + 2)) (a2.eval (.const (.int .i64 0)))) (m + 2) = .int .i64 (0 : Nat) := by rw [gt_put z2, if_pos rfl]; rfl
  have e3l : gt (a2.put (some (m + 2)) (a2.eval (.const (.int .i64 0)))) (m + 1) = .int .i64 (vs.length : Nat) := by rw [gt_put z2, if_neg (by omega)]; exact e2
  generalize a2.put (some (m + 2)) (a2.eval (.const (.int .i64 0))) = a3 at g3 e3 e3l
  have st3 : SA X a3 w0 ds := hst0.act g3 (by unfold Tm; omega) (by unfold Tm; omega) (by unfold Tm; omega)
  have f3 : Ag (Cw X.M0 kv m) a0 a3 := g3.mono fun j hj => by unfold Tm at hj; unfold Cw; omega
  refine wp_block (wp_loop (fun a w => ∃ i : Nat, i ≤ vs.length ∧ gt a (m + 2) = .int .i64 (i : Nat) ∧ gt a (m + 1) = .int .i64 (vs.length : Nat) ∧ Ag (Cw X.M0 kv m) a0 a ∧ Only (fun j => X.base ≤ j) w0 w ∧ Fr w0 w ∧ SA X a w (ds ++ ((vs.take i).map (enc em.w)).flatten))
    (fun a _ => vs.length - (intOf (gt a (m + 2))).toNat) ⟨0, Nat.zero_le _, e3, e3l, f3, Only.refl _ _, hFr.refl _, by simpa using st3⟩ ?_)
  rintro a w ⟨i, hin, hgi, hgl, hag, honly, hfr, hst⟩
  have hs := hst.size
  have z3 : m + 3 < a.tmps.size := by omega
  refine wp_seq (wp_reg (wpC_val (runs_cmp .lss _ (.inl ⟨rfl, rfl⟩) (k := .i64) (p := (i : Nat)) (q := (vs.length : Nat)) hgi hgl) (wpC_nil ?_)))
  have g4 := (Ag.refl (fun j => j = m + 3) a).put (d := m + 3) rfl z3 (.bool (decide (((i : Nat) : Int) < ((vs.length : Nat) : Int))))
  have e4 : gt (a.put (some (m + 3)) (.bool (decide (((i : Nat) : Int) < ((vs.length : Nat) : Int))))) (m + 3) = .bool (decide (((i : Nat) : Int) < ((vs.length : Nat) : Int))) := by rw [gt_put z3, if_pos rfl]
  generalize a.put (some (m + 3)) (.bool (decide (((i : Nat) : Int) < ((vs.length : Nat) : Int)))) = a4 at g4 e4
  have st4 : SA X a4 w (ds ++ ((vs.take i).map (enc em.w)).flatten) := hst.act g4 (by omega) (by omega) (by omega)
  have f4 : Ag (Cw X.M0 kv m) a0 a4 := hag.trans (g4.mono fun j hj => by unfold Cw; omega)
  refine wp_seq (wp_cond (t := decide (((i : Nat) : Int) < ((vs.length : Nat) : Int))) e4 ?_)
  by_cases hlt : i < vs.length
  · rw [if_pos (by simp; omega)]
    have hvi : vs[i]? = some vs[i] := List.getElem?_eq_getElem hlt
    have hfl := flat_take_succ em vs i vs[i] hvi
    have hle := flat_take_le em vs (i + 1)
    rw [hfl, List.length_append] at hle
    refine wp_skip (wp_seq (wp_block (hbody _ a4 w _ i vs[i] hvi st4 ((g4.keep _ (by omega)).trans hgi) f4 honly (by rw [List.length_append]; omega) _ fun a5 w5 g5 o5 fr5 st5 => ?_)))
    have i5 : gt a5 (m + 2) = .int .i64 (i : Nat) := (g5.keep _ (by unfold Cw; omega)).trans ((g4.keep _ (by omega)).trans hgi)
    have l5 : gt a5 (m + 1) = .int .i64 (vs.length : Nat) := (g5.keep _ (by unfold Cw; omega)).trans ((g4.keep _ (by omega)).trans hgl)
    have s5 := st5.size
    show (reg _ _).wp X.P _ a5 w5
    refine wp_reg (wpC_val (runs_add (k := .i64) (p := (i : Nat)) (q := 1) i5 rfl) ?_)
    have ew : IntKind.i64.wrap ((i : Nat) + 1) = ((i + 1 : Nat) : Int) := by rw [IntWalk.i64_in _ (by omega)]; omega
    rw [ew]
    have z5 : m + 4 + bt < a5.tmps.size := by omega
    have g6 := (Ag.refl (Tm (m + 2)) a5).put (d := m + 4 + bt) (by unfold Tm; omega) z5 (.int .i64 ((i + 1 : Nat) : Int))
    have e6 : gt (a5.put (some (m + 4 + bt)) (.int .i64 ((i + 1 : Nat) : Int))) (m + 4 + bt) = .int .i64 ((i + 1 : Nat) : Int) := by rw [gt_put z5, if_pos rfl]
    have e6l : gt (a5.put (some (m + 4 + bt)) (.int .i64 ((i + 1 : Nat) : Int))) (m + 1) = .int .i64 (vs.length : Nat) := by rw [gt_put z5, if_neg (by omega)]; exact l5
    generalize a5.put (some (m + 4 + bt)) (.int .i64 ((i + 1 : Nat) : Int)) = a6 at g6 e6 e6l
    refine wpC_val (runs_move _) (wpC_nil ?_)
    rw [evT, e6]
    have z6 : m + 2 < a6.tmps.size := by rw [g6.size]; omega
    have g7 := g6.put (d := m + 2) (by unfold Tm; omega) z6 (.int .i64 ((i + 1 : Nat) : Int))
    have e7 : gt (a6.put (some (m + 2)) (.int .i64 ((i + 1 : Nat) : Int))) (m + 2) = .int .i64 ((i + 1 : Nat) : Int) := by rw [gt_put z6, if_pos rfl]
    have e7l : gt (a6.put (some (m + 2)) (.int .i64 ((i + 1 : Nat) : Int))) (m + 1) = .int .i64 (vs.length : Nat) := by rw [gt_put z6, if_neg (by omega)]; exact e6l
    generalize a6.put (some (m + 2)) (.int .i64 ((i + 1 : Nat) : Int)) = a7 at g7 e7 e7l
    refine ⟨⟨i + 1, hlt, e7, e7l, (f4.trans (g5.cw (Nat.le_refl _) (by omega))).trans (g7.mono fun j hj => by unfold Tm at hj; unfold Cw; omega), honly.trans o5, hFr.trans hfr fr5, ?_⟩, ?_⟩
    · rw [hfl, ← List.append_assoc]
      exact st5.act g7 (by unfold Tm; omega) (by unfold Tm; omega) (by unfold Tm; omega)
    · rw [e7, hgi]; simp [intOf]; omega
  · obtain rfl : i = vs.length := by omega
    rw [if_neg (by simp)]
    refine wp_exit ?_
    show (if Code.id0 (pc c0 [1]) = Code.id0 (pc c0 [1]) then Q .normal a4 w else Q (.exit _) a4 w)
    rw [if_pos rfl]
    rw [List.take_length] at st4
    exact h a4 w f4 honly hfr st4


/-- One thing is written. -/
theorem EA.writes (hX : AOk X) (hFr : FrOk Fr) (e : EA) {TS eb ks kv ctr m n c b i lo hi : Nat} {zs : List Value} {c0 : Code} {x : Val} (he : e.ok X.P X.G.u8 X.q X.fx Fr zs) (hS : Sl X.P TS zs.length eb zs) {a : Act} {w : World} {ds : List UInt8} (hst : SA X a w ds)
    (hk0 : gt a ks = .slice (some ⟨b, 0, none⟩) n c) (hc : gt a ctr = .int .i64 (i : Nat)) (hin : i < n) (hH : Holds X.D (e.m X.ver X.flex) w lo hi b (i * zs.length) x) (hw : wf (e.m X.ver X.flex).w x) (hbB : b < X.base) (hhi : hi ≤ X.base) (hlo : X.q = false → X.base ≤ lo)
    (h6 : X.fs < ks) (h1 : ks ≠ 1) (hkv : ks < kv) (hk : kv + e.k ≤ X.M0) (hm : X.M0 ≤ m) (hcm : ctr < m) (hct : X.M0 ≤ ctr) (hN : m + e.t ≤ X.N) (hl : ds.length + (enc (e.m X.ver X.flex).w x).length + 16 ≤ lim2) :
    WritesF X Fr (e.code X.G TS ks kv ctr m c0) (enc (e.m X.ver X.flex).w x) kv m a w ds := by
  have hfs := X.fs_le
  have hM := hX.N0
  intro Q hQ
  have hsz := hst.size
  have hdb := hst.db
  have hbs := hst.base
  have idx : ∀ (a1 : Act), a1.tmps.size = X.N → ∀ (x y : Nat), gt a1 x = .slice (some ⟨b, 0, none⟩) n c → gt a1 y = .int .i64 (i : Nat) → Runs X.P a1 w (.indexAddr TS (.tmp x) (.tmp y)) (.pointer (some ⟨b, i * zs.length, none⟩)) w := by
    intro a1 _ x y hx hy
    have := runs_indexAddr (P := X.P) (a := a1) (w := w) hS (x := .tmp x) (y := .tmp y) (p := ⟨b, 0, none⟩) hx hy (by omega) (by omega)
    rwa [Addr.add_lit, Int.toNat_natCast, Nat.zero_add] at this
  cases e with
  | v u ub F =>
    obtain ⟨hF, hB, hu, hz⟩ := he
    simp only [EA.k, EA.t] at hk hN
    obtain ⟨cs, hc1, hc2⟩ := RK.of_holds (k := .prim .uuid) hH
    have hcl : cs.length = 16 := RK.leaf_len hc2
    have h1c := RK.leaf_one hc2 rfl
    refine wp_seq (gCopy_wp (by omega) (by omega) fun a1 g1 v1 => ?_)
    rw [hc] at v1
    have k1 : gt a1 ks = .slice (some ⟨b, 0, none⟩) n c := (g1.keep ks (by omega)).trans hk0
    have s1 : a1.tmps.size = X.N := g1.size.trans hsz
    obtain ⟨z, hz16, hal⟩ := hB.alc
    refine wp_seq (wp_reg (stV (by omega) (runs_move _) fun a2 k2 => stV (by rw [k2.size]; omega) (runs_move _) fun a3 k3 => stV (v := .pointer (some ⟨b, i * zs.length, none⟩)) (by rw [k3.size, k2.size]; omega)
      (idx a3 (by rw [k3.size, k2.size, s1]) _ _ (by rw [k3.old _ (by omega), k2.new]; exact k1) (by rw [k3.new, evT, k2.old _ (by omega)]; exact v1)) fun a4 k4 => stV (by rw [k4.size, k3.size, k2.size]; omega) (runs_ld hu k4.new hcl hc1) fun a5 k5 => stV (v := .pointer (some ⟨w.heap.size, 0, none⟩)) (by rw [k5.size, k4.size, k3.size, k2.size]; omega) (fun o ho => hal o _ _ ho) fun a6 k6 => ?_))
    have ev : valOf (.prim .uuid) cs = .agg cs.toArray := rfl
    have e6 : gt a6 (kv + 1) = .pointer (some ⟨w.heap.size, 0, none⟩) := k6.new
    have e6b : gt a6 (m + 4) = .agg cs.toArray := by rw [k6.old _ (by omega), k5.new, ev]
    have hblk : Blk (w.alloc (.cells z ub)) w.heap.size 16 := ⟨z, ub, heap_alloc_new w _, hz16⟩
    obtain ⟨w7, hr7, hw7⟩ := runs_storeN (P := X.P) (a := a6) (u := ub) (x := .tmp (kv + 1)) (y := .tmp (m + 4)) (b := w.heap.size) (o := 0) (n := 16) (v := .agg cs.toArray) e6 e6b (by obtain ⟨inf, hi, hs⟩ := hB.sz; exact ⟨inf, hi, hs.trans (by simp [Value.cells, hcl])⟩) (by simpa [Value.cells] using h1c) hblk (by simp [Value.cells, hcl])
    refine wpC_skip hr7 (stE ?_)
    have oal : Only (fun _ => False) w (w.alloc (.cells z ub)) := ⟨rfl, rfl, rfl, by simp, fun q hq _ => Below.heap_alloc w _ q hq⟩
    have o7 : Only (fun _ => False) w w7 := only_fresh (r := w.heap.size) oal (hw7.only.mono fun q _ h => .inr h) (Nat.le_refl _)
    have g6 : Ag (Cw X.M0 kv m) a a6 := ⟨by rw [k6.size, k5.size, k4.size, k3.size, k2.size, g1.size], by rw [k6.defers, k5.defers, k4.defers, k3.defers, k2.defers, g1.defers], fun j hj => by
      unfold Cw at hj
      rw [k6.old j (by omega), k5.old j (by omega), k4.old j (by omega), k3.old j (by omega), k2.old j (by omega), g1.keep j (by omega)]⟩
    have st7 : SA X a6 w7 ds := by
      have h0 : SA X a6 w ds := hst.act (S := fun j => j = kv ∨ j = kv + 1 ∨ m ≤ j) ⟨g6.size, g6.defers, fun j hj => by rw [k6.old j (by omega), k5.old j (by omega), k4.old j (by omega), k3.old j (by omega), k2.old j (by omega), g1.keep j (by omega)]⟩ (by omega) (by omega) (by omega)
      exact h0.world o7
    have hc7 : (RK.prim .uuid).leaf X.D w7 lo hi cs x := RK.leaf_keep hc2 (o7.block _ (by omega) id) fun q q1 q2 => o7.block q (by omega) id
    have hcc : Cells w7 w.heap.size 0 cs := by simpa [Value.cells] using hw7.cells
    -- the call
    have s6 : a6.tmps.size = X.N := st7.size
    refine wp_reg (stV (by omega) (runs_move _) fun a8 k8 => stV (v := .agg cs.toArray) (by rw [k8.size]; omega) (runs_loadB hB (x := .tmp (kv + 1)) (cs := cs) (by rw [evT, k8.old _ (by omega)]; exact e6) hcl hcc) fun a9 k9 =>
      stC (R := fun e w' => ∃ vv, e = .returned vv ∧ (Own X.G.u8 X.base w' vv (ds ++ enc (RK.prim .uuid).m.w x) ∧ Only (fun j => X.base ≤ j) w7 w' ∧ Fr w7 w')) (by rw [k9.size, k8.size]; omega) hF.1 (args2 (x := gt a6 1) (y := .agg cs.toArray) (by rw [k9.old _ (by omega), k8.new]; rfl) k9.new)
        ((hF.2 X.D X.base w7 _ ds lo hi cs x st7.own hc7 hw hdb st7.base hl).mono fun e w' ⟨vv, h, k⟩ => ⟨vv, h, vv, rfl, k⟩) fun v10 w10 a10 hR k10 => stV (by rw [k10.size, k9.size, k8.size]; omega) (runs_assign _) fun a11 k11 => stE ?_)
    obtain ⟨vv, e, q1, q2, q3⟩ := hR
    obtain rfl : v10 = vv := by simpa using e
    rw [evT, k10.new] at k11
    have g11 : Ag (Cw X.M0 kv m) a6 a11 := ⟨by rw [k11.size, k10.size, k9.size, k8.size], by rw [k11.defers, k10.defers, k9.defers, k8.defers], fun j hj => by
      unfold Cw at hj
      rw [k11.old j (by omega), k10.old j (by omega), k9.old j (by omega), k8.old j (by omega)]⟩
    exact hQ a11 w10 (g6.trans g11) ((o7.none _).trans q2) (hFr.trans (hFr.none o7) q3) (st7.next g11 (by omega) (by omega) (by rw [k11.new]; exact q1) q2)
  | s T b' =>
    obtain ⟨hb, hFrT⟩ := he
    simp only [EA.k, EA.t] at hk hN
    refine wp_seq (gCopy_wp (by omega) (by omega) fun a1 g1 v1 => ?_)
    rw [hc] at v1
    have k1 : gt a1 ks = .slice (some ⟨b, 0, none⟩) n c := (g1.keep ks (by omega)).trans hk0
    have s1 : a1.tmps.size = X.N := g1.size.trans hsz
    refine wp_seq (wp_reg (stV (by omega) (runs_move _) fun a2 k2 => stV (by rw [k2.size]; omega) (runs_move _) fun a3 k3 => stV (v := .pointer (some ⟨b, i * zs.length, none⟩)) (by rw [k3.size, k2.size]; omega)
      (idx a3 (by rw [k3.size, k2.size, s1]) _ _ (by rw [k3.old _ (by omega), k2.new]; exact k1) (by rw [k3.new, evT, k2.old _ (by omega)]; exact v1)) fun a4 k4 => stV (by rw [k4.size, k3.size, k2.size]; omega) (runs_assign _) fun a5 k5 => stE ?_))
    rw [evT, k4.new] at k5
    have g5 : Ag (fun j => j = kv ∨ j = kv + 1 ∨ m ≤ j) a a5 := ⟨by rw [k5.size, k4.size, k3.size, k2.size, g1.size], by rw [k5.defers, k4.defers, k3.defers, k2.defers, g1.defers], fun j hj => by rw [k5.old j (by omega), k4.old j (by omega), k3.old j (by omega), k2.old j (by omega), g1.keep j (by omega)]⟩
    have st5 : SA X a5 w ds := hst.act g5 (by omega) (by omega) (by omega)
    exact A_writes hX b' T (kv + 1) (kv + 2) (m + 4) b (i * zs.length) lo hi none _ a5 w ds x hb ⟨st5, k5.new, hH, hw, hl, hbB, hhi, hlo, hdb, by omega, by omega, by omega, by omega, by omega, by omega⟩ Q fun a6 w6 p1 p2 p3 => hQ a6 w6 ((g5.mono fun j hj => by unfold Cw; omega).trans (p1.cw (by omega) (by omega))) p2 (hFrT _ _) p3
end
end Go.Proofs.YtpefipjgcpchaaaGreatDoorR.Kf

namespace Go.Proofs.YtpefipjgcpchaaaGreatDoorR.Kf
set_option linter.unusedVariables false
set_option linter.unusedSimpArgs false
open Go Go.RowKit

/-- A tagged list: its number, place, types; how it is written (tcn: which temporary says whether it is to be written). -/
structure TA where
  key : Nat
  i : Nat
  o : Nat
  TS : Nat
  eb : Nat
  zs : List Value
  nl : Bool
  Fc : Nat
  Fp : Nat
  e : EA
  tcn : Nat
def TA.lt (g : TA) : Nat := 1 + lenT g.nl + lenT g.nl
def TA.k (g : TA) : Nat := 3 + g.e.k
def TA.t (g : TA) : Nat := 24 + g.lt + g.e.t + 2
def TA.m (ver : Int) (flex : Bool) (g : TA) : M := g.e.m ver flex
def TA.ok (P : Program) (U : Nat) (q fx : Bool) (Fr : World → World → Prop) (T : Nat) (g : TA) : Prop := FieldAt P T g.i g.o g.TS 1 ∧ Sl P g.TS g.zs.length g.eb g.zs ∧ LnF P U g.Fc g.nl Fr ∧ g.e.ok P U q fx Fr g.zs ∧ g.key < 4294967296

def gPass (G : Hn) (Szc : Code) (k m l : Nat) (g : TA) (c : Code) : Code :=
  .seq (gALen2 G g.TS k (m + 8) g.nl g.Fc g.Fp (pc c [0])) (.seq (gRange G g.TS k (m + 8 + g.lt) g.e.t (g.e.code G g.TS k (k + 3) (m + 8 + g.lt + 2) (m + 8 + g.lt + 4)) (pc c [1, 0]))
    (.seq (reg [⟨some (m + 13 + g.lt + g.e.t), .move (.tmp (k + 1)), none⟩, ⟨some (m + 14 + g.lt + g.e.t), .unOp .not G.bool (.tmp (m + 13 + g.lt + g.e.t)), none⟩] (pc c [1, 1, 0]))
      (.cond (.tmp (m + 14 + g.lt + g.e.t)) (.seq Szc (.seq (gConst (k + 1) (.bool true) (pc c [1, 1, 1, 0, 1, 0])) (.goto l))) .skip)))
def gTagW (G : Hn) (Uv T s k m l : Nat) (g : TA) (c : Code) : Code := .scope (.seq (gLoad T g.i g.TS s k m (pc c [0, 0]))
  (.seq (reg [⟨some (m + 4), .move (.tmp 1), none⟩, ⟨some (m + 4 + 1), .call ⟨.value (.func Uv), #[.tmp (m + 4), .const (.int .u32 g.key)], #[G.sl, G.u32]⟩, none⟩, ⟨some 1, .assign (.tmp (m + 4 + 1)), none⟩] (pc c [0, 1, 0]))
  (.seq (gConst (k + 1) (.bool false) (pc c [0, 1, 1, 0]))
  (.seq (reg [⟨some (m + 6), .move (.tmp 1), none⟩, ⟨some (m + 7), .call ⟨.builtin .len, #[.tmp (m + 6)], #[G.sl]⟩, none⟩, ⟨some (k + 2), .assign (.tmp (m + 7)), none⟩] (pc c [0, 1, 1, 1, 0]))
  (.seq (.label l) (gPass G (pc c [0, 1, 1, 1, 1, 1, 1, 1, 1, 0, 0]) k m l g (pc c [0, 1, 1, 1, 1, 1])))))))

/-- The code that puts the size ahead of what has been written (kl: where that begins). -/
def SizC (P : Program) (G : Hn) (Fr : World → World → Prop) (N kl m : Nat) (code : Code) : Prop :=
  ∀ (Q : Exit → Act → World → Prop) (a : Act) (w : World) (base : Nat) (ds E : List UInt8), a.tmps.size = N → a.defers = [] → Own G.u8 base w (gt a 1) (ds ++ E) → ds ≠ [] → gt a kl = .int .i64 (ds.length : Nat) → base ≤ w.heap.size → ds.length + E.length + 16 ≤ lim2 → E.length < 4294967296 →
    (∀ a' w', Ag (fun j => j = 1 ∨ (m ≤ j ∧ j < m + 9)) a a' → Own G.u8 base w' (gt a' 1) (ds ++ uvEnc E.length) → Only (fun j => base ≤ j) w w' → Fr w w' → Q .normal a' w') → code.wp P Q a w

theorem uvEncF_len10 : ∀ (k n : Nat), (uvEncF k n).length ≤ k := by
  intro k
  induction k with
  | zero => intro n; simp [uvEncF]
  | succ k ih =>
    intro n
    simp only [uvEncF]
    split
    · simp
    · have := ih (n / 128); simp; omega
theorem Own.form {U base : Nat} {w : World} {v : Value} {bs : List UInt8} (h : Own U base w v bs) : ∃ A c, v = .slice A bs.length c := by
  rcases h.2 with ⟨rfl, h0⟩ | ⟨g, cap, cur, rfl, _⟩
  · exact ⟨none, 0, by rw [h0]⟩
  · exact ⟨_, cap, rfl⟩

section
variable {X : AX} {Q : Exit → Act → World → Prop} {Fr : World → World → Prop}

/-- A list that is to be written: some things, E is what is written of them. -/
def GVal (X : AX) (g : TA) (b : Nat) (w : World) (E : List UInt8) : Prop :=
  ∃ (A cap : Nat) (vs : List Val), w.cell? ⟨b, g.o, none⟩ = some (.slice (some ⟨A, 0, none⟩) vs.length cap) ∧ (0 < vs.length ∧ vs.length ≤ 2147483646) ∧ A < X.base ∧
    (∀ i v, vs[i]? = some v → wf (g.e.m X.ver X.flex).w v ∧ ∃ lo hi, hi ≤ X.base ∧ Holds X.D (g.e.m X.ver X.flex) w lo hi A (i * g.zs.length) v) ∧ E = cntEnc true 4 (some vs.length) ++ (vs.map (enc (g.e.m X.ver X.flex).w)).flatten
theorem GVal.keep {g : TA} {b : Nat} {w w' : World} {E : List UInt8} (h : GVal X g b w E) (hB : X.base ≤ w.heap.size) (hb : b < X.base) (hD : X.D < X.base) (o : Only (fun j => X.base ≤ j) w w') : GVal X g b w' E := by
  obtain ⟨A, cap, vs, h1, h2, h3, h4, h5⟩ := h
  refine ⟨A, cap, vs, (World.cell?_of_block (w := w) (o.block b (by omega) (by omega))).trans h1, h2, h3, fun i v hv => ?_, h5⟩
  obtain ⟨k1, lo, hi, k2, k3⟩ := h4 i v hv
  exact ⟨k1, lo, hi, k2, k3.keep (o.block _ (by omega) (by omega)) (fun q q1 q2 => o.block q (by omega) (by omega)) fun _ _ => World.cell?_of_block (w := w) (o.block A (by omega) (by omega))⟩

theorem gPass_wp (hX : AOk X) (hFr : FrOk Fr) (hq : X.q = true) (hfx : X.fx = true) (hfl : X.flex = true) {g : TA} {T : Nat} (hg : g.ok X.P X.G.u8 X.q X.fx Fr T) {Szc c : Code} {k m l A cap : Nat} {vs : List Val} {sz : Bool} {a : Act} {w : World} {ds : List UInt8} (hst : SA X a w ds)
    (hv : gt a k = .slice (some ⟨A, 0, none⟩) vs.length cap) (hz : gt a (k + 1) = .bool sz) (hvl : vs.length ≤ 2147483646) (hA : A < X.base) (hels : ∀ i v, vs[i]? = some v → wf (g.e.m X.ver X.flex).w v ∧ ∃ lo hi, hi ≤ X.base ∧ Holds X.D (g.e.m X.ver X.flex) w lo hi A (i * g.zs.length) v)
    (h6 : X.fs < k) (hk : k + g.k ≤ X.M0) (hm : X.M0 ≤ m) (hN : m + (24 + g.lt + g.e.t) ≤ X.N) (hlen : ds.length + (cntEnc true 4 (some vs.length) ++ (vs.map (enc (g.e.m X.ver X.flex).w)).flatten).length + 26 ≤ lim2)
    (fin : ∀ a' w', Ag (Cw X.M0 (k + 3) (m + 8)) a a' → Only (fun j => X.base ≤ j) w w' → Fr w w' → SA X a' w' (ds ++ (cntEnc true 4 (some vs.length) ++ (vs.map (enc (g.e.m X.ver X.flex).w)).flatten)) →
      (if sz then Code.skip else .seq Szc (.seq (gConst (k + 1) (.bool true) (pc c [1, 1, 1, 0, 1, 0])) (.goto l))).wp X.P Q a' w') : (gPass X.G Szc k m l g c).wp X.P Q a w := by
  obtain ⟨hgf, hgS, hgL, hge, hgk⟩ := hg
  have hfs := X.fs_le
  have hfs6 := AX.fs6 hfx
  have hM := hX.N0
  have hT : ∃ e, X.P.underlying g.TS = some (.slice e) := by obtain ⟨E, hE, _⟩ := hgS.ex; exact ⟨E, hE⟩
  simp only [TA.k] at hk
  have hltg : 1 + lenT g.nl + lenT g.nl = g.lt := rfl
  have hlt1 : 1 ≤ g.lt := by rw [← hltg]; omega
  rw [List.length_append] at hlen
  have hek : 2 ≤ g.e.k := by cases g.e <;> simp [EA.k]
  refine wp_seq (lenF_wp hT hgL hfx hfl hst hv hvl (by omega) (by omega) (by omega) (by omega) (by rw [hltg]; omega) fun a1 w1 g1 o1 f1 st1 => ?_)
  rw [hltg] at g1
  simp only [Option.isNone_some, Bool.and_false, Bool.false_eq_true, if_false] at st1
  have hb0 := hst.base
  have v1 : gt a1 k = .slice (some ⟨A, 0, none⟩) vs.length cap := (g1.keep k (by omega)).trans hv
  refine wp_seq (rangeF_wp hFr (kv := k + 3) (em := g.e.m X.ver X.flex) hT st1 v1 (by omega) (by omega) (by omega) (by omega) (by omega) (by omega) (by rw [List.length_append]; omega) (fun c a2 w2 ds2 i v hv2 st2 q1 q2 q3 q4 Q2 hQ2 => ?_) fun a2 w2 g2 o2 f2 st2 => ?_)
  · obtain ⟨hwv, lo, hi, hhi, hH⟩ := hels i v hv2
    have o12 : Only (fun j => X.base ≤ j) w w2 := o1.trans q3
    have hdb := hst.db
    have hH2 : Holds X.D (g.e.m X.ver X.flex) w2 lo hi A (i * g.zs.length) v := hH.keep (o12.block _ (by omega) (by omega)) (fun q q1 q2 => o12.block q (by omega) (by omega)) fun _ _ => World.cell?_of_block (w := w) (o12.block A (by omega) (by omega))
    exact EA.writes hX hFr g.e hge hgS st2 (by rw [q2.keep k (by unfold Cw; omega), v1]) q1 (List.getElem?_eq_some_iff.1 hv2).1 hH2 hwv hA hhi (fun h => by rw [hq] at h; cases h) (by omega) (by omega) (by omega) (by omega) (by omega) (by omega) (by omega) (by omega) q4 Q2 hQ2
  · have g12 : Ag (Cw X.M0 (k + 3) (m + 8)) a a2 := (g1.mono (S' := Cw X.M0 (k + 3) (m + 8)) fun j hj => by unfold Cw; omega).trans (g2.cw (Nat.le_refl _) (by omega))
    have s2 := st2.size
    have z2 : gt a2 (k + 1) = .bool sz := (g12.keep _ (by unfold Cw; omega)).trans hz
    refine wp_seq (wp_reg (stV (by omega) (runs_move _) fun a3 k3 => stV (v := .bool (!sz)) (by rw [k3.size]; omega) (runs_not (by rw [evT, k3.new, evT, z2])) fun a4 k4 => stE ?_))
    have g4 : Ag (Cw X.M0 (k + 3) (m + 8)) a2 a4 := ⟨by rw [k4.size, k3.size], by rw [k4.defers, k3.defers], fun j hj => by unfold Cw at hj; rw [k4.old j (by omega), k3.old j (by omega)]⟩
    have st4 : SA X a4 w2 (ds ++ (cntEnc true 4 (some vs.length) ++ (vs.map (enc (g.e.m X.ver X.flex).w)).flatten)) := by
      rw [← List.append_assoc]
      exact st2.act (S := fun j => m + 8 ≤ j) ⟨g4.size, g4.defers, fun j hj => by rw [k4.old j (by omega), k3.old j (by omega)]⟩ (by omega) (by omega) (by omega)
    have := fin a4 w2 (g12.trans g4) (o1.trans o2) (hFr.trans f1 f2) st4
    refine wp_cond (t := !sz) (by rw [evT, k4.new]) ?_
    cases sz with
    | true => exact this
    | false => exact this

theorem gTagW_wp (hX : AOk X) (hFr : FrOk Fr) (hq : X.q = true) (hfx : X.fx = true) (hfl : X.flex = true) (hsl : ∃ e, X.P.underlying X.G.sl = some (.slice e)) {Uv : Nat} (hU : UvF X.P X.G.u8 Uv Fr) {g : TA} {T s k m l b : Nat} {c : Code} (hg : g.ok X.P X.G.u8 X.q X.fx Fr T)
    (hSz : SizC X.P X.G Fr X.N (k + 2) (m + 15 + g.lt + g.e.t) (pc c [0, 1, 1, 1, 1, 1, 1, 1, 1, 0, 0])) {a : Act} {w : World} {ds E : List UInt8} (hst : SA X a w ds) (hs : gt a s = .pointer (some ⟨b, 0, none⟩)) (hV : GVal X g b w E) (hb : b < X.base)
    (h6 : X.fs < k) (h1s : s ≠ 1) (hsk : s < k) (hk : k + g.k ≤ X.M0) (hm : X.M0 ≤ m) (hN : m + (24 + g.lt + g.e.t) ≤ X.N) (hE : E.length < 4294967296) (hlen : ds.length + E.length + 64 ≤ lim2)
    (h : ∀ a' w', Ag (Cw X.M0 k m) a a' → Only (fun j => X.base ≤ j) w w' → Fr w w' → SA X a' w' (ds ++ encTags [(g.key, E)]) → Q .normal a' w') : (gTagW X.G Uv T s k m l g c).wp X.P Q a w := by
  obtain ⟨A, cap, vs, hcell, ⟨_, hvl⟩, hA, hels, rfl⟩ := id hV
  have hfs := X.fs_le
  have hfs6 := AX.fs6 hfx
  have hM := hX.N0
  have hk' := hk
  simp only [TA.k] at hk'
  have hek : 2 ≤ g.e.k := by cases g.e <;> simp [EA.k]
  have hdb := hst.db
  have hb0 := hst.base
  have hsz := hst.size
  have hgk : g.key < 4294967296 := hg.2.2.2.2
  have hku : (uvEnc g.key).length ≤ 10 := by unfold uvEnc; exact uvEncF_len10 10 g.key
  generalize hEE : cntEnc true 4 (some vs.length) ++ (vs.map (enc (g.e.m X.ver X.flex).w)).flatten = E at *
  have hlu : (uvEnc E.length).length ≤ 10 := by unfold uvEnc; exact uvEncF_len10 10 _
  refine wp_scope_jumps l (fun a' w' => Ag (Cw X.M0 k m) a a' ∧ Only (fun j => X.base ≤ j) w w' ∧ Fr w w' ∧ SA X a' w' (ds ++ uvEnc g.key ++ uvEnc E.length) ∧ gt a' k = .slice (some ⟨A, 0, none⟩) vs.length cap ∧ gt a' (k + 1) = .bool true) (fun _ _ => 0)
    (rest := .seq .skip (gPass X.G (pc c [0, 1, 1, 1, 1, 1, 1, 1, 1, 0, 0]) k m l g (pc c [0, 1, 1, 1, 1, 1]))) (by simp [findLabel, gLoad, reg, gConst]) ?_ ?_
  · refine wp_seq (gLoad_wp (b := b) (off := 0) hs hg.1 hg.2.1.one (by simpa using hcell) (by omega) (by omega) fun a1 g1 v1 => ?_)
    have st1 : SA X a1 w ds := hst.act g1 (by omega) (by omega) (by omega)
    refine wp_seq (uvF_wp hU st1 hgk (by omega) (by omega) (by omega) fun a2 w2 g2 o2 f2 st2 => ?_)
    have v2 : gt a2 k = .slice (some ⟨A, 0, none⟩) vs.length cap := (g2.keep k (by omega)).trans v1
    have s2 := st2.size
    refine wp_seq (gConst_wp (by omega) fun a3 g3 v3 => ?_)
    have st3 : SA X a3 w2 (ds ++ uvEnc g.key) := st2.act g3 (by omega) (by omega) (by omega)
    have s3 := st3.size
    obtain ⟨A1, c1, e1⟩ := st3.own.form
    refine wp_seq (wp_reg (stV (by omega) (runs_move _) fun a4 k4 => stV (by rw [k4.size]; omega) (runs_len hsl (by rw [evT, k4.new, evT, e1])) fun a5 k5 => stV (by rw [k5.size, k4.size]; omega) (runs_assign _) fun a6 k6 => stE ?_))
    rw [evT, k5.new] at k6
    have g6 : Ag (fun j => j = k + 2 ∨ m ≤ j) a3 a6 := ⟨by rw [k6.size, k5.size, k4.size], by rw [k6.defers, k5.defers, k4.defers], fun j hj => by rw [k6.old j (by omega), k5.old j (by omega), k4.old j (by omega)]⟩
    have st6 : SA X a6 w2 (ds ++ uvEnc g.key) := st3.act g6 (by omega) (by omega) (by omega)
    have f06 : Ag (Cw X.M0 k m) a a6 := (((g1.mono (S' := Cw X.M0 k m) fun j hj => by unfold Cw; omega).trans (g2.mono fun j hj => by unfold Cw; omega)).trans (g3.mono fun j hj => by unfold Cw; omega)).trans (g6.mono fun j hj => by unfold Cw; omega)
    have els2 : ∀ i v, vs[i]? = some v → wf (g.e.m X.ver X.flex).w v ∧ ∃ lo hi, hi ≤ X.base ∧ Holds X.D (g.e.m X.ver X.flex) w2 lo hi A (i * g.zs.length) v := by
      intro i v hv
      obtain ⟨k1, lo, hi, k2, k3⟩ := hels i v hv
      exact ⟨k1, lo, hi, k2, k3.keep (o2.block _ (by omega) (by omega)) (fun q q1 q2 => o2.block q (by omega) (by omega)) fun _ _ => World.cell?_of_block (w := w) (o2.block A (by omega) (by omega))⟩
    refine wp_seq (wp_label ?_)
    refine gPass_wp hX hFr hq hfx hfl hg (sz := false) st6 ((g6.keep k (by omega)).trans ((g3.keep k (by omega)).trans v2)) ((g6.keep (k + 1) (by omega)).trans v3) hvl hA els2 h6 hk hm hN (by rw [hEE, List.length_append]; omega) fun a7 w7 g7 o7 f7 st7 => ?_
    rw [if_neg (by decide), hEE] at *
    have kl7 : gt a7 (k + 2) = .int .i64 ((ds ++ uvEnc g.key).length : Nat) := (g7.keep _ (by unfold Cw; omega)).trans k6.new
    refine wp_seq (hSz _ a7 w7 X.base (ds ++ uvEnc g.key) E st7.size st7.defers st7.own (by
      intro e
      have h2 := uvEnc_pos g.key
      rw [(List.append_eq_nil_iff.1 e).2] at h2
      simp at h2) kl7 st7.base (by rw [List.length_append]; omega) hE fun a8 w8 g8 own8 o8 f8 => ?_)
    have st8 : SA X a8 w8 (ds ++ uvEnc g.key ++ uvEnc E.length) := st7.next (k := k) (m := m) (g8.mono fun j hj => by unfold Cw; omega) h6 (by omega) own8 o8
    have s8 := st8.size
    refine wp_seq (gConst_wp (by omega) fun a9 g9 v9 => wp_goto ?_)
    have f09 : Ag (Cw X.M0 k m) a a9 := ((f06.trans (g7.cw (by omega) (by omega))).trans (g8.mono fun j hj => by unfold Cw; omega)).trans (g9.mono fun j hj => by unfold Cw; omega)
    exact ⟨rfl, f09, o2.trans (o7.trans o8), hFr.trans f2 (hFr.trans f7 f8), st8.act g9 (by omega) (by omega) (by omega), (g9.keep k (by omega)).trans ((g8.keep k (by omega)).trans ((g7.keep k (by unfold Cw; omega)).trans ((g6.keep k (by omega)).trans ((g3.keep k (by omega)).trans v2)))), v9⟩
  · rintro a1 w1 ⟨q1, q2, q3, q4, q5, q6⟩
    have els1 : ∀ i v, vs[i]? = some v → wf (g.e.m X.ver X.flex).w v ∧ ∃ lo hi, hi ≤ X.base ∧ Holds X.D (g.e.m X.ver X.flex) w1 lo hi A (i * g.zs.length) v := by
      intro i v hv
      obtain ⟨k1, lo, hi, k2, k3⟩ := hels i v hv
      exact ⟨k1, lo, hi, k2, k3.keep (q2.block _ (by omega) (by omega)) (fun q q1 q2' => q2.block q (by omega) (by omega)) fun _ _ => World.cell?_of_block (w := w) (q2.block A (by omega) (by omega))⟩
    refine wp_seq (wp_skip ?_)
    refine gPass_wp hX hFr hq hfx hfl hg (sz := true) q4 q5 q6 hvl hA els1 h6 hk hm hN (by rw [hEE, List.length_append, List.length_append]; omega) fun a7 w7 g7 o7 f7 st7 => ?_
    rw [if_pos rfl]
    rw [hEE] at st7
    refine wp_skip (h a7 w7 (q1.trans (g7.cw (by omega) (by omega))) (q2.trans o7) (hFr.trans q3 f7) ?_)
    have e : encTags [(g.key, E)] = uvEnc g.key ++ (uvEnc E.length ++ E) := by simp [encTags]
    rw [e]
    simpa [List.append_assoc] using st7
end
end Go.Proofs.YtpefipjgcpchaaaGreatDoorR.Kf

namespace Go.Proofs.YtpefipjgcpchaaaGreatDoorR.Kf
set_option linter.unusedVariables false
set_option linter.unusedSimpArgs false
open Go Go.RowKit

def keyV (k : Nat) : Value := .int .u32 k
theorem encTgs_app : ∀ (a b : List (Nat × List UInt8)), encTags (a ++ b) = encTags a ++ encTags b := by
  intro a
  induction a with
  | nil => intro b; rfl
  | cons x a ih => intro b; obtain ⟨k, v⟩ := x; simp [encTags, ih]
theorem encTgs_take {l : List (Nat × List UInt8)} {i : Nat} (h : i < l.length) : encTags (l.take (i + 1)) = encTags (l.take i) ++ encTags [l[i]] := by
  rw [List.take_succ_eq_append_getElem h, encTgs_app]
theorem row_ne {w : World} {b1 b2 e1 e2 s1 s2 n1 n2 : Nat} {v1 v2 : Value} {x1 x2 : List Value} (h1 : w.ownsRow b1 e1 s1 v1 n1 x1) (h2 : w.ownsRow b2 e2 s2 v2 n2 x2) (he : e1 ≠ e2) {g : Nat} (hg : v1.ownBlock = some g) : v2.ownBlock ≠ some g := by
  intro hg2
  rcases h1.2 with ⟨rfl, _⟩ | ⟨g1, c1, cur1, rfl, _, k1, _⟩
  · cases hg
  rcases h2.2 with ⟨rfl, _⟩ | ⟨g2, c2, cur2, rfl, _, k2, _⟩
  · cases hg2
  have a1 : g1 = g := by simpa [Value.ownBlock] using hg
  have a2 : g2 = g := by simpa [Value.ownBlock] using hg2
  subst a1; subst a2
  rw [k1] at k2
  simp at k2
  exact he k2.2
theorem row_keepB {base e size n : Nat} {w w' : World} {v : Value} {xs : List Value} (h : w.ownsRow base e size v n xs) (hb : ∀ g, v.ownBlock = some g → w'.heap[g]? = w.heap[g]?) : w'.ownsRow base e size v n xs := by
  refine ⟨h.1, ?_⟩
  rcases h.2 with h | ⟨g, cap, cur, rfl, hg, hh, r⟩
  · exact .inl h
  · exact .inr ⟨g, cap, cur, rfl, hg, (hb g rfl).trans hh, r⟩
theorem row_slice {base e size n : Nat} {w : World} {v : Value} {xs : List Value} (h : w.ownsRow base e size v n xs) : ∃ A c, v = .slice A n c := by
  rcases h.2 with ⟨rfl, h0⟩ | ⟨g, cap, cur, rfl, _⟩
  · exact ⟨none, 0, by rw [h0]⟩
  · exact ⟨_, cap, rfl⟩

/-- The code that tells whether a list is to be written. -/
def CndC (P : Program) (N o mlo mhi r : Nat) (code : Code) : Prop :=
  ∀ (Q : Exit → Act → World → Prop) (a : Act) (w : World) (b : Nat) (p : Option Addr) (n c : Nat) (ver : Int), a.tmps.size = N → a.defers = [] → gt a 0 = .pointer (some ⟨b, 0, none⟩) → gt a 5 = .int .i16 ver → 0 ≤ ver → w.cell? ⟨b, o, none⟩ = some (.slice p n c) → p.isSome = decide (0 < n) →
    (∀ a', Ag (fun j => mlo ≤ j ∧ j < mhi) a a' → gt a' r = .bool (decide (0 < n)) → Q .normal a' w) → code.wp P Q a w
/-- The code that puts a number behind those of the tags to be written. -/
def ApKC (P : Program) (U32 N k m key : Nat) (code : Code) : Prop :=
  ∀ (Q : Exit → Act → World → Prop) (a : Act) (w : World) (base : Nat) (ks : List Nat), a.tmps.size = N → a.defers = [] → w.ownsRow base U32 1 (gt a k) ks.length (ks.map keyV) → ks.length ≤ 1000 → base ≤ w.heap.size →
    (∀ a' w', Ag (fun j => j = k ∨ (m ≤ j ∧ j < m + 3)) a a' → w'.ownsRow base U32 1 (gt a' k) (ks ++ [key]).length ((ks ++ [key]).map keyV) → Only (fun j => (gt a k).ownBlock = some j) w w' → Q .normal a' w') → code.wp P Q a w
/-- What the code of tags names: Uvarint, the tags' own functions, the slice of numbers; the tags' place; the variables' and temporaries' places. -/
structure ZGn where
  uv : Nat
  fl : Nat
  fe : Nat
  ks : Nat
  i : Nat
  u : Nat
def gCnds : List TA → Nat → (Nat → Code → Code) → Code → Code
  | [], m, tl, c => tl m c
  | g :: l, m, tl, c => .seq (.seq (pc c [0, 0]) (.cond (.tmp (m + g.tcn)) (pc c [0, 1, 0]) .skip)) (gCnds l (m + g.tcn + 4) tl (pc c [1]))
def CndAll (P : Program) (U32 N k : Nat) : List TA → Nat → Code → Prop
  | [], _, _ => True
  | g :: l, m, c => CndC P N g.o m (m + g.tcn + 1) (m + g.tcn) (pc c [0, 0]) ∧ ApKC P U32 N k (m + g.tcn + 1) g.key (pc c [0, 1, 0]) ∧ CndAll P U32 N k l (m + g.tcn + 4) (pc c [1])
def TA.tcs : List TA → Nat
  | [] => 0
  | g :: l => g.tcn + 4 + TA.tcs l
def TA.ks : List TA → Nat
  | [] => 0
  | g :: l => g.k + TA.ks l
def TA.ts : List TA → Nat
  | [] => 0
  | g :: l => g.t + TA.ts l
def gCasesW (G : Hn) (Uv T s kt : Nat) : List TA → (k m l : Nat) → Code → Code
  | [], _, _, _, _ => .skip
  | g :: gs, k, m, l, c => .seq (reg [⟨some (m + 1), .binOp .eql G.u32 (.tmp kt) (.const (.int .u32 g.key)) G.u32, none⟩, ⟨some m, .assign (.tmp (m + 1)), none⟩] (pc c [0])) (.cond (.tmp m) (gTagW G Uv T s k (m + 2) l g (pc c [1, 0])) (gCasesW G Uv T s kt gs (k + g.k) (m + g.t) (l + 1) (pc c [1, 1])))
def SizAll (P : Program) (G : Hn) (Fr : World → World → Prop) (N : Nat) : List TA → (k m : Nat) → Code → Prop
  | [], _, _, _ => True
  | g :: gs, k, m, c => SizC P G Fr N (k + 2) (m + 2 + 15 + g.lt + g.e.t) (pc (pc c [1, 0]) [0, 1, 1, 1, 1, 1, 1, 1, 1, 0, 0]) ∧ SizAll P G Fr N gs (k + g.k) (m + g.t) (pc c [1, 1])
def gLoopW (G : Hn) (Z : ZGn) (T k m : Nat) (gs : List TA) (c : Code) : Code := gRange G Z.ks k m (3 + TA.ts gs) (fun c => .seq (reg [⟨some (m + 4), .indexAddr Z.ks (.tmp m) (.tmp (m + 2)), none⟩, ⟨some (m + 5), .load G.u32 (.tmp (m + 4)), none⟩, ⟨some (k + 2), .assign (.tmp (m + 5)), none⟩] (pc c [0]))
  (.seq (gMove (k + 2) (m + 6) (pc c [1, 0])) (.block (Code.id0 (pc c [1, 1])) (gCasesW G Z.uv T 0 (m + 6) gs (k + 3) (m + 7) 0 (pc c [1, 1, 0]))))) c
def gCnt (G : Hn) (Z : ZGn) (T k m : Nat) (c : Code) : Code := reg [⟨some m, .move (.tmp 1), none⟩, ⟨some (m + 1), .move (.tmp k), none⟩, ⟨some (m + 2), .call ⟨.builtin .len, #[.tmp (m + 1)], #[Z.ks]⟩, none⟩, ⟨some (m + 3), .move (.tmp 0), none⟩, ⟨some (m + 4), .nilCheck (.tmp (m + 3)), none⟩, ⟨some (m + 5), .fieldAddr T (.tmp (m + 4)) Z.i, none⟩,
  ⟨some (m + 6), .call ⟨.value (.func Z.fl), #[.tmp (m + 5)], #[G.tg]⟩, none⟩, ⟨some (m + 7), .binOp .add G.int (.tmp (m + 2)) (.tmp (m + 6)) G.int, none⟩, ⟨some (m + 8), .convert G.int G.u32 (.tmp (m + 7)), none⟩, ⟨some (m + 9), .call ⟨.value (.func Z.uv), #[.tmp m, .tmp (m + 8)], #[G.sl, G.u32]⟩, none⟩, ⟨some 1, .assign (.tmp (m + 9)), none⟩] c
def gEach (G : Hn) (Z : ZGn) (T m : Nat) (c : Code) : Code := reg [⟨some m, .move (.tmp 0), none⟩, ⟨some (m + 1), .nilCheck (.tmp m), none⟩, ⟨some (m + 2), .fieldAddr T (.tmp (m + 1)) Z.i, none⟩, ⟨some (m + 3), .move (.tmp 1), none⟩, ⟨some (m + 4), .call ⟨.value (.func Z.fe), #[.tmp (m + 2), .tmp (m + 3)], #[G.tg, G.sl]⟩, none⟩, ⟨some 1, .assign (.tmp (m + 4)), none⟩] c
def gTgB (G : Hn) (Z : ZGn) (T k m : Nat) (gs : List TA) (c : Code) : Code := .seq (gConst k (.slice none 0 0) (pc c [0])) (gCnds gs m (fun m c => .seq (gCnt G Z T k m (pc c [0])) (.seq (gLoopW G Z T k (m + 10) gs (pc c [1, 0])) (gEach G Z T (m + 18 + TA.ts gs) (pc c [1, 1])))) (pc c [1]))
/-- The piece of code behind the tests. -/
def pth1 : Nat → List Nat
  | 0 => []
  | n + 1 => 1 :: pth1 n

section
variable {X : AX} {Q : Exit → Act → World → Prop} {Fr : World → World → Prop}

/-- What a tagged list lies as: nothing, or what is written of it. -/
def TVal (X : AX) (b : Nat) (w : World) (x : TA × Option (List UInt8)) : Prop :=
  match x.2 with
  | none => w.cell? ⟨b, x.1.o, none⟩ = some (.slice none 0 0)
  | some E => GVal X x.1 b w E ∧ E.length < 4294967296
def knT (gE : List (TA × Option (List UInt8))) : List (Nat × List UInt8) := gE.filterMap fun x => x.2.map fun E => (x.1.key, E)
theorem TVal.keep {x : TA × Option (List UInt8)} {b : Nat} {w w' : World} (h : TVal X b w x) (hB : X.base ≤ w.heap.size) (hb : b < X.base) (hD : X.D < X.base) (o : Only (fun j => X.base ≤ j) w w') : TVal X b w' x := by
  obtain ⟨g, E⟩ := x
  cases E with
  | none => exact (World.cell?_of_block (w := w) (o.block b (by omega) (by omega))).trans h
  | some E => exact ⟨h.1.keep hB hb hD o, h.2⟩
theorem SA.row {a a' : Act} {w w' : World} {ds : List UInt8} {U32 n : Nat} {v : Value} {xs : List Value} {S : Nat → Prop} (h : SA X a w ds) (hr : w.ownsRow X.base U32 1 v n xs) (hu : X.G.u8 ≠ U32) (ho : Only (fun j => v.ownBlock = some j) w w') (ha : Ag S a a') (h1 : ¬ S 1) (h5 : ¬ S 5) (h6 : ¬ S X.fs) : SA X a' w' ds := by
  have h0 := h.act ha h1 h5 h6
  have hlt := World.ownsRow.lt h0.own
  exact ⟨h0.size, h0.defers, h0.ver, h0.fl, row_keepB h0.own fun g hg => ho.block g (hlt g hg).2 (row_ne h0.own hr hu hg), Nat.le_trans h0.base ho.size, h0.db⟩

/-- Which are to be written. -/
theorem gCnds_wp {U32 k : Nat} {tl : Nat → Code → Code} (hu : X.G.u8 ≠ U32) (hv0 : 0 ≤ X.ver) : ∀ (gE : List (TA × Option (List UInt8))) (m : Nat) (c : Code) (a : Act) (w : World) (ds : List UInt8) (b : Nat) (ks : List Nat), CndAll X.P U32 X.N k (gE.map Prod.fst) m c → SA X a w ds → gt a 0 = .pointer (some ⟨b, 0, none⟩) → b < X.base → (∀ x ∈ gE, TVal X b w x) →
    w.ownsRow X.base U32 1 (gt a k) ks.length (ks.map keyV) → ks.length + gE.length ≤ 1000 → X.fs < k → k < X.M0 → X.M0 ≤ m → m + TA.tcs (gE.map Prod.fst) ≤ X.N →
    (∀ a' w', Ag (Cw X.M0 k m) a a' → gt a' 1 = gt a 1 → Only (fun j => X.base ≤ j) w w' → SA X a' w' ds → w'.ownsRow X.base U32 1 (gt a' k) (ks ++ (knT gE).map Prod.fst).length ((ks ++ (knT gE).map Prod.fst).map keyV) → (tl (m + TA.tcs (gE.map Prod.fst)) (pc c (pth1 gE.length))).wp X.P Q a' w') →
    (gCnds (gE.map Prod.fst) m tl c).wp X.P Q a w := by
  intro gE
  induction gE with
  | nil =>
    intro m c a w ds b ks _ hst _ _ _ hr _ _ _ _ _ h
    have := h a w (Ag.refl _ _) rfl (Only.refl _ _) hst (by simpa [knT] using hr)
    simpa [gCnds, pth1, pc, TA.tcs] using this
  | cons x gE ih =>
    intro m c a w ds b ks hC hst h0 hb hV hr hkl hk6 hkM hm hN h
    have hfs := X.fs_le
    obtain ⟨g, E⟩ := x
    simp only [List.map_cons, TA.tcs] at hN h
    obtain ⟨hC1, hC2, hC3⟩ := hC
    have hVx := hV (g, E) (by simp)
    have hbs := hst.base
    have hdb := hst.db
    obtain ⟨p, n, cc, hcell, hpn, hE⟩ : ∃ p n cc, w.cell? ⟨b, g.o, none⟩ = some (.slice p n cc) ∧ p.isSome = decide (0 < n) ∧ decide (0 < n) = E.isSome := by
      cases E with
      | none => exact ⟨none, 0, 0, hVx, rfl, rfl⟩
      | some E =>
        obtain ⟨⟨A, cap, vs, h1, h2, _⟩, _⟩ := hVx
        exact ⟨_, vs.length, cap, h1, by simp; omega, by simp; omega⟩
    refine wp_seq (wp_seq (hC1 _ a w b p n cc X.ver hst.size hst.defers h0 hst.ver hv0 hcell hpn fun a1 g1 v1 => ?_))
    have st1 : SA X a1 w ds := hst.act g1 (by omega) (by omega) (by omega)
    have r1 : w.ownsRow X.base U32 1 (gt a1 k) ks.length (ks.map keyV) := by rw [g1.keep k (by omega)]; exact hr
    refine wp_cond (t := decide (0 < n)) v1 ?_
    rw [hE]
    cases E with
    | none =>
      rw [if_neg (by simp)]
      refine wp_skip (ih (m + g.tcn + 4) (pc c [1]) a1 w ds b ks hC3 st1 ((g1.keep 0 (by omega)).trans h0) hb (fun y hy => hV y (by simp [hy])) r1 (by simp at hkl; omega) hk6 hkM (by omega) (by omega) fun a2 w2 q1 q2 q3 q5 q6 => ?_)
      have := h a2 w2 ((g1.mono fun j hj => by unfold Cw; omega).trans (q1.cw (Nat.le_refl _) (by omega))) (q2.trans (g1.keep 1 (by omega))) q3 q5 (by simpa [knT] using q6)
      have e : m + g.tcn + 4 + TA.tcs (gE.map Prod.fst) = m + (g.tcn + 4 + TA.tcs (gE.map Prod.fst)) := by omega
      rw [e]
      exact this
    | some E =>
      rw [if_pos (show (some E).isSome = true from rfl)]
      refine hC2 _ a1 w X.base ks st1.size st1.defers r1 (by simp at hkl; omega) hbs fun a2 w2 g2 r2 o2 => ?_
      have hlt := World.ownsRow.lt r1
      have st2 : SA X a2 w2 ds := st1.row r1 hu o2 g2 (by omega) (by omega) (by omega)
      have o2' : Only (fun j => X.base ≤ j) w w2 := o2.mono fun j _ hj => (hlt j hj).1
      refine ih (m + g.tcn + 4) (pc c [1]) a2 w2 ds b (ks ++ [g.key]) hC3 st2 ((g2.keep 0 (by omega)).trans ((g1.keep 0 (by omega)).trans h0)) hb (fun y hy => (hV y (by simp [hy])).keep hbs hb hdb o2') r2 (by simp at hkl ⊢; omega) hk6 hkM (by omega) (by omega) fun a3 w3 q1 q2 q3 q5 q6 => ?_
      have := h a3 w3 (((g1.mono fun j hj => by unfold Cw; omega).trans (g2.mono fun j hj => by unfold Cw; omega)).trans (q1.cw (Nat.le_refl _) (by omega))) (q2.trans ((g2.keep 1 (by omega)).trans (g1.keep 1 (by omega)))) (o2'.trans q3) q5 (by simpa [knT] using q6)
      have e : m + g.tcn + 4 + TA.tcs (gE.map Prod.fst) = m + (g.tcn + 4 + TA.tcs (gE.map Prod.fst)) := by omega
      rw [e]
      exact this

/-- Which tag is it? -/
theorem gCasesW_wp (hX : AOk X) (hFr : FrOk Fr) (hq : X.q = true) (hfx : X.fx = true) (hfl : X.flex = true) (hsl : ∃ e, X.P.underlying X.G.sl = some (.slice e)) {Uv : Nat} (hU : UvF X.P X.G.u8 Uv Fr) {T s kt b : Nat} {w : World} {ds E : List UInt8} {g0 : TA} (hV : GVal X g0 b w E) (hE : E.length < 4294967296) (hlen : ds.length + E.length + 64 ≤ lim2) (hb : b < X.base) (h1s : s ≠ 1) : ∀ (gs : List TA) (k m l : Nat) (c : Code) (a : Act),
    (∀ g ∈ gs, g.ok X.P X.G.u8 X.q X.fx Fr T) → (∀ g ∈ gs, g.key = g0.key → g = g0) → g0 ∈ gs → SizAll X.P X.G Fr X.N gs k m c → SA X a w ds → gt a kt = .int .u32 g0.key → gt a s = .pointer (some ⟨b, 0, none⟩) → X.fs < k → s < k → k + TA.ks gs ≤ X.M0 → X.M0 ≤ m → kt < m → X.M0 ≤ kt → m + TA.ts gs ≤ X.N →
    (∀ a' w', Ag (Cw X.M0 k m) a a' → Only (fun j => X.base ≤ j) w w' → Fr w w' → SA X a' w' (ds ++ encTags [(g0.key, E)]) → Q .normal a' w') → (gCasesW X.G Uv T s kt gs k m l c).wp X.P Q a w := by
  intro gs
  induction gs with
  | nil => intro k m l c a _ _ h; cases h
  | cons g gs ih =>
    intro k m l c a hgs huq hmem hSz hst hkt hs hk6 hsk hk hm hktm hktM hN h
    have hfs := X.fs_le
    have hsz := hst.size
    have hM := hX.N0
    simp only [TA.ks, TA.ts] at hk hN
    have ht : g.t = 24 + g.lt + g.e.t + 2 := rfl
    have hkk : g.k = 3 + g.e.k := rfl
    obtain ⟨hS1, hS2⟩ := hSz
    refine wp_seq (wp_reg (stV (by omega) (runs_cmp .eql _ (.inr (.inr (.inr (.inr ⟨rfl, rfl⟩)))) (k := .u32) (p := g0.key) (q := g.key) hkt rfl) fun a1 k1 => stV (by rw [k1.size]; omega) (runs_assign _) fun a2 k2 => stE ?_))
    have g2 : Ag (fun j => m ≤ j) a a2 := ⟨by rw [k2.size, k1.size], by rw [k2.defers, k1.defers], fun j hj => by rw [k2.old j (by omega), k1.old j (by omega)]⟩
    have st2 : SA X a2 w ds := hst.act g2 (by omega) (by omega) (by omega)
    have f2 : Ag (Cw X.M0 k m) a a2 := g2.mono fun j hj => by unfold Cw; omega
    refine wp_cond (t := ((g0.key : Int) == (g.key : Int))) (by rw [evT, k2.new, evT, k1.new]) ?_
    by_cases he : g.key = g0.key
    · rw [if_pos (by simp; omega)]
      obtain rfl := huq g (by simp) he
      exact gTagW_wp hX hFr hq hfx hfl hsl hU (hgs g (by simp)) hS1 st2 ((g2.keep s (by omega)).trans hs) hV hb hk6 h1s hsk (by omega) (by omega) (by omega) hE hlen fun a3 w3 q1 q2 q3 q4 => h a3 w3 (f2.trans (q1.cw (Nat.le_refl _) (by omega))) q2 q3 q4
    · rw [if_neg (by simp; omega)]
      have hmem' : g0 ∈ gs := by
        rcases List.mem_cons.1 hmem with h | h
        · rw [h] at he; exact absurd rfl he
        · exact h
      refine ih (k + g.k) (m + g.t) (l + 1) _ a2 (fun g' hg' => hgs g' (by simp [hg'])) (fun g' hg' => huq g' (by simp [hg'])) hmem' hS2 st2 ((g2.keep kt (by omega)).trans hkt) ((g2.keep s (by omega)).trans hs) (by omega) (by omega) (by omega) (by omega) (by omega) hktM (by omega) fun a3 w3 q1 q2 q3 q4 => h a3 w3 (f2.trans (q1.cw (by omega) (by omega))) q2 q3 q4

/-- All that are to be written. -/
theorem gLoopW_wp (hX : AOk X) (hFr : FrOk Fr) (hq : X.q = true) (hfx : X.fx = true) (hfl : X.flex = true) (hsl : ∃ e, X.P.underlying X.G.sl = some (.slice e)) {Z : ZGn} (hU : UvF X.P X.G.u8 Z.uv Fr) (hu : X.G.u8 ≠ X.G.u32) (hu1 : One X.P X.G.u32) {eb : Nat} {zs : List Value} (hS : Sl X.P Z.ks 1 eb zs)
    {T k m b : Nat} {gs : List TA} {kn : List (Nat × List UInt8)} {c : Code} {a0 : Act} {w0 : World} {ds : List UInt8} {v : Value} (hgs : ∀ g ∈ gs, g.ok X.P X.G.u8 X.q X.fx Fr T) (huq : ∀ g ∈ gs, ∀ g' ∈ gs, g.key = g'.key → g = g')
    (hSz : SizAll X.P X.G Fr X.N gs (k + 3) (m + 7) (pc (pc c [1, 0, 0, 1, 1, 0, 0]) [1, 1, 0])) (hst0 : SA X a0 w0 ds) (hv : gt a0 k = v) (hr : w0.ownsRow X.base X.G.u32 1 v kn.length ((kn.map Prod.fst).map keyV)) (h0 : gt a0 0 = .pointer (some ⟨b, 0, none⟩)) (hb : b < X.base)
    (hkn : ∀ x ∈ kn, ∃ g ∈ gs, g.key = x.1 ∧ GVal X g b w0 x.2 ∧ x.2.length < 4294967296) (hkl : kn.length ≤ 1000) (hFrU : kn.length ≤ 1 ∨ ∀ w w', Fr w w' → FrU X.G.u8 w w') (hk6 : X.fs < k) (hk : k + 3 + TA.ks gs ≤ X.M0) (hm : X.M0 ≤ m) (hN : m + 8 + TA.ts gs ≤ X.N) (hlen : ds.length + (encTags kn).length + 64 ≤ lim2)
    (h : ∀ a' w', Ag (Cw X.M0 (k + 1) m) a0 a' → Only (fun j => X.base ≤ j) w0 w' → SA X a' w' (ds ++ encTags kn) → Q .normal a' w') : (gLoopW X.G Z T k m gs c).wp X.P Q a0 w0 := by
  have hfs := X.fs_le
  have hsz := hst0.size
  have hbs := hst0.base
  have hdb := hst0.db
  have hM := hX.N0
  obtain ⟨A, cc, rfl⟩ := row_slice hr
  have hT : ∃ e, X.P.underlying Z.ks = some (.slice e) := by obtain ⟨E, hE, _⟩ := hS.ex; exact ⟨E, hE⟩
  refine wp_seq (wp_reg (stV (by omega) (runs_move _) fun a1 k1 => stV (by rw [k1.size]; omega) (runs_len hT (by rw [evT, k1.new, evT, hv])) fun a2 k2 => stV (by rw [k2.size, k1.size]; omega) (runs_move _) fun a3 k3 => stE ?_))
  have g3 : Ag (Cw X.M0 (k + 1) m) a0 a3 := ⟨by rw [k3.size, k2.size, k1.size], by rw [k3.defers, k2.defers, k1.defers], fun j hj => by unfold Cw at hj; rw [k3.old j (by omega), k2.old j (by omega), k1.old j (by omega)]⟩
  have st3 : SA X a3 w0 ds := hst0.act (S := fun j => m ≤ j) ⟨g3.size, g3.defers, fun j hj => by rw [k3.old j (by omega), k2.old j (by omega), k1.old j (by omega)]⟩ (by omega) (by omega) (by omega)
  have c0 : gt a3 m = .slice A kn.length cc := by rw [k3.old _ (by omega), k2.old _ (by omega), k1.new, evT, hv]
  have c1 : gt a3 (m + 1) = .int .i64 (kn.length : Nat) := by rw [k3.old _ (by omega), k2.new]
  have c2 : gt a3 (m + 2) = .int .i64 (0 : Nat) := k3.new
  refine wp_block (wp_loop (fun a w => ∃ i : Nat, i ≤ kn.length ∧ gt a m = .slice A kn.length cc ∧ gt a (m + 1) = .int .i64 (kn.length : Nat) ∧ gt a (m + 2) = .int .i64 (i : Nat) ∧ Ag (Cw X.M0 (k + 1) m) a0 a ∧ Only (fun j => X.base ≤ j) w0 w ∧ SA X a w (ds ++ encTags (kn.take i)) ∧ (i < kn.length → w.ownsRow X.base X.G.u32 1 (.slice A kn.length cc) kn.length ((kn.map Prod.fst).map keyV)))
    (fun a _ => kn.length - (intOf (gt a (m + 2))).toNat) ⟨0, Nat.zero_le _, c0, c1, c2, g3, Only.refl _ _, by simpa [encTags] using st3, fun _ => hr⟩ ?_)
  rintro a w ⟨i, hin, d0, d1, d2, hag, honly, hst, hrow⟩
  have hs := hst.size
  refine wp_seq (wp_reg (stV (by omega) (runs_cmp .lss _ (.inl ⟨rfl, rfl⟩) (k := .i64) (p := (i : Nat)) (q := (kn.length : Nat)) d2 d1) fun a4 k4 => stE ?_))
  have g4 : Ag (fun j => j = m + 3) a a4 := ⟨k4.size, k4.defers, fun j hj => k4.old j hj⟩
  have st4 := hst.act g4 (by omega) (by omega) (by omega)
  have f4 : Ag (Cw X.M0 (k + 1) m) a0 a4 := hag.trans (g4.mono fun j hj => by unfold Cw; omega)
  refine wp_seq (wp_cond (t := decide (((i : Nat) : Int) < ((kn.length : Nat) : Int))) (by rw [evT]; exact k4.new) ?_)
  by_cases hlt : i < kn.length
  · rw [if_pos (by simp; omega)]
    have hrw := hrow hlt
    obtain ⟨gb, rfl, hgb⟩ : ∃ gb, A = some ⟨gb, 0, none⟩ ∧ ∃ cur, w.heap[gb]? = some (.cells cur X.G.u32 (0, 0)) := by
      rcases hrw.2 with ⟨e, h0⟩ | ⟨g, cap, cur, e, _, hg, _⟩
      · omega
      · injection e with e1 _ _
        exact ⟨g, e1, cur, hg⟩
    have hcell : w.cell? ⟨gb, i, none⟩ = some (keyV kn[i].1) := by
      rw [World.ownsRow.cellAt hrw i (by omega)]
      simp [hlt]
    obtain ⟨g, hg, hgk, hGV, hEl⟩ := hkn kn[i] (List.getElem_mem hlt)
    have hstep := encTgs_take hlt
    have hle : (encTags (kn.take (i + 1))).length ≤ (encTags kn).length := by
      have e := List.take_append_drop (i + 1) kn
      have := congrArg (fun l => (encTags l).length) e
      simp only [encTgs_app, List.length_append] at this
      omega
    have hx : (encTags (kn.take i)).length + kn[i].2.length ≤ (encTags kn).length := by
      have h1 : ∀ y : Nat × List UInt8, y.2.length ≤ (encTags [y]).length := fun y => by simp [encTags]; omega
      have h2 := h1 kn[i]
      rw [hstep, List.length_append] at hle
      omega
    have hGV' := hGV.keep hbs hb hdb honly
    have s4 : a4.tmps.size = X.N := st4.size
    have ew : IntKind.i64.wrap ((i : Nat) + 1) = ((i + 1 : Nat) : Int) := by rw [IntWalk.i64_in _ (by omega)]; omega
    refine wp_skip (wp_seq (wp_block (wp_seq (wp_reg (stV (v := .pointer (some ⟨gb, i, none⟩)) (by omega) (by
      have := runs_indexAddr (P := X.P) (a := a4) (w := w) hS (x := .tmp m) (y := .tmp (m + 2)) (p := ⟨gb, 0, none⟩) (n := kn.length) (c := cc) (k := .i64) (i := (i : Nat)) ((k4.old _ (by omega)).trans d0) ((k4.old _ (by omega)).trans d2) (by omega) (by omega)
      rwa [Addr.add_lit, Int.toNat_natCast, Nat.zero_add, Nat.mul_one] at this) fun a5 k5 => stV (v := keyV kn[i].1) (by rw [k5.size]; omega) (runs_load hu1 k5.new hcell) fun a6 k6 => stV (by rw [k6.size, k5.size]; omega) (runs_assign _) fun a7 k7 => stE (wp_seq (wp_reg (stV (by rw [k7.size, k6.size, k5.size]; omega) (runs_move _) fun a8 k8 => stE (wp_block ?_))))))))) 
    rw [evT, k6.new] at k7
    rw [evT, k7.new] at k8
    have g8 : Ag (fun j => j = k + 2 ∨ (m + 4 ≤ j)) a4 a8 := ⟨by rw [k8.size, k7.size, k6.size, k5.size], by rw [k8.defers, k7.defers, k6.defers, k5.defers], fun j hj => by rw [k8.old j (by omega), k7.old j (by omega), k6.old j (by omega), k5.old j (by omega)]⟩
    have st8 := st4.act g8 (by omega) (by omega) (by omega)
    have f8 : Ag (Cw X.M0 (k + 1) m) a0 a8 := f4.trans (g8.mono fun j hj => by unfold Cw; omega)
    refine gCasesW_wp hX hFr hq hfx hfl hsl hU (g0 := g) hGV' hEl (by rw [List.length_append]; omega) hb (by decide) gs (k + 3) (m + 7) 0 _ a8 hgs (fun g' hg' e => huq g' hg' g hg e) hg hSz st8 (by rw [hgk]; exact k8.new) ((f8.keep 0 (by unfold Cw; omega)).trans h0) (by omega) (by omega) (by omega) (by omega) (by omega) (by omega) (by omega) fun a9 w9 q1 q2 q3 q4 => ?_
    show (reg _ _).wp X.P _ a9 w9
    have q1' : ∀ j, j = m ∨ j = m + 1 ∨ j = m + 2 → gt a9 j = gt a j := fun j hj => by rw [q1.keep j (by unfold Cw; omega), g8.keep j (by omega), g4.keep j (by omega)]
    have s9 := q4.size
    refine wp_reg (stV (v := .int .i64 ((i + 1 : Nat) : Int)) (by omega) (by
      have := runs_add (P := X.P) (a := a9) (w := w9) (t := X.G.int) (t2 := X.G.int) (x := .tmp (m + 2)) (y := .const (.int .i64 1)) (k := .i64) (p := (i : Nat)) (q := 1) ((q1' _ (by omega)).trans d2) rfl
      rwa [ew] at this) fun a10 k10 => stV (by rw [k10.size]; omega) (runs_move _) fun a11 k11 => stE ?_)
    rw [evT, k10.new] at k11
    have g11 : Ag (fun j => j = m + 2 ∨ m + 4 ≤ j) a9 a11 := ⟨by rw [k11.size, k10.size], by rw [k11.defers, k10.defers], fun j hj => by rw [k11.old j (by omega), k10.old j (by omega)]⟩
    refine ⟨⟨i + 1, hlt, by rw [g11.keep m (by omega), q1' m (by omega)]; exact d0, by rw [g11.keep _ (by omega), q1' _ (by omega)]; exact d1, k11.new, (f8.trans (q1.cw (by omega) (by omega))).trans (g11.mono fun j hj => by unfold Cw; omega), honly.trans q2, ?_, fun hlt2 => ?_⟩, ?_⟩
    · rw [hstep, ← List.append_assoc]
      have := q4.act g11 (by omega) (by omega) (by omega)
      rw [hgk] at this
      exact this
    · rcases hFrU with hF | hF
      · omega
      · obtain ⟨cur, hcur⟩ := hgb
        refine row_keepB hrw fun j hj => ?_
        have e : gb = j := by simpa [Value.ownBlock] using hj
        subst e
        refine hF w w9 q3 gb (Array.getElem?_eq_some_iff.1 hcur).1 fun cur2 e2 => ?_
        rw [hcur] at e2
        simp at e2
        exact hu e2.2.symm
    · rw [k11.new, d2]; simp [intOf]; omega
  · obtain rfl : i = kn.length := by omega
    rw [if_neg (by simp)]
    refine wp_exit ?_
    show (if Code.id0 (pc c [1]) = Code.id0 (pc c [1]) then Q .normal a4 w else Q (.exit _) a4 w)
    rw [if_pos rfl]
    rw [List.take_length] at st4
    exact h a4 w f4 honly st4

theorem gCnt_wp (hX : AOk X) (hfx : X.fx = true) {Z : ZGn} (hU : UvF X.P X.G.u8 Z.uv (FrU X.G.u8)) (hL : TLenC X.P Z.fl) {oT : Nat} {T k m b n lo hi : Nat} {c : Code} (hf : FieldAt X.P T Z.i oT Z.u 1) (hT : ∃ e, X.P.underlying Z.ks = some (.slice e)) {a : Act} {w : World} {ds : List UInt8} {A : Option Addr} {cc : Nat} {un : List (Nat × List UInt8)}
    (hst : SA X a w ds) (hv : gt a k = .slice A n cc) (h0 : gt a 0 = .pointer (some ⟨b, 0, none⟩)) (hH : Holds X.D .tags w lo hi b oT (.tags un)) (hn : n + un.length < 4294967296) (hk1 : 1 < k) (hkm : k < m) (hm : 6 < m) (hN : m + 10 ≤ X.N) (hlen : ds.length + 10 ≤ lim2)
    (h : ∀ a' w', Ag (fun j => j = 1 ∨ (m ≤ j ∧ j < m + 10)) a a' → Only (fun j => X.base ≤ j) w w' → FrU X.G.u8 w w' → SA X a' w' (ds ++ uvEnc (n + un.length)) → Q .normal a' w') : (gCnt X.G Z T k m c).wp X.P Q a w := by
  have hfs := X.fs_le
  have hsz := hst.size
  obtain ⟨hle, cs, hc1, hc2⟩ := hH
  refine wp_reg (stV (by omega) (runs_move _) fun a1 k1 => stV (by rw [k1.size]; omega) (runs_move _) fun a2 k2 => stV (v := .int .i64 (n : Nat)) (by rw [k2.size, k1.size]; omega) (runs_len hT (p := A) (c := cc) (by rw [evT, k2.new, evT, k1.old _ (by omega)]; exact hv)) fun a3 k3 => stV (v := .pointer (some ⟨b, 0, none⟩)) (by rw [k3.size, k2.size, k1.size]; omega) (by
    have := runs_move (P := X.P) (a := a3) (w := w) (.tmp 0)
    rwa [evT, k3.old _ (by omega), k2.old _ (by omega), k1.old _ (by omega), h0] at this) fun a4 k4 => stV (by rw [k4.size, k3.size, k2.size, k1.size]; omega) (runs_nilCheck (p := ⟨b, 0, none⟩) k4.new) fun a5 k5 => stV (v := .pointer (some ⟨b, oT, none⟩)) (by rw [k5.size, k4.size, k3.size, k2.size, k1.size]; omega) (by
    have := runs_fieldAddr (P := X.P) (a := a5) (w := w) hf (p := ⟨b, 0, none⟩) (x := .tmp (m + 4)) k5.new
    rwa [Addr.add_lit, Nat.zero_add] at this) fun a6 k6 => ?_)
  refine stC (R := fun e w' => ∃ v, e = .returned v ∧ (v = .int .i64 (un.length : Nat) ∧ Only (fun _ => False) w w')) (by rw [k6.size, k5.size, k4.size, k3.size, k2.size, k1.size]; omega) hL.1 (args1 k6.new) ((hL.2 X.D w b oT lo hi cs un hc1 hc2).mono fun e w' ⟨v, h, k⟩ => ⟨v, h, v, rfl, k⟩) fun v7 w7 a7 hR k7 => ?_
  obtain ⟨v, e, rfl, o7⟩ := hR
  obtain rfl : v7 = _ := by simpa using e
  have e2 : gt a7 (m + 2) = .int .i64 (n : Nat) := by rw [k7.old _ (by omega), k6.old _ (by omega), k5.old _ (by omega), k4.old _ (by omega), k3.new]
  have ew : IntKind.i64.wrap ((n : Int) + (un.length : Int)) = ((n + un.length : Nat) : Int) := by rw [IntWalk.i64_in _ (by omega)]; omega
  refine stV (v := .int .i64 ((n + un.length : Nat) : Int)) (by rw [k7.size, k6.size, k5.size, k4.size, k3.size, k2.size, k1.size]; omega) (by
    have := runs_add (P := X.P) (a := a7) (w := w7) (t := X.G.int) (t2 := X.G.int) (x := .tmp (m + 2)) (y := .tmp (m + 6)) (k := .i64) (p := n) (q := un.length) e2 k7.new
    rwa [ew] at this) fun a8 k8 => stV (v := .int .u32 ((n + un.length : Nat) : Int)) (by rw [k8.size, k7.size, k6.size, k5.size, k4.size, k3.size, k2.size, k1.size]; omega) (by
    have := runs_conv (P := X.P) (a := a8) (w := w7) hX.int hX.u32 (x := .tmp (m + 7)) k8.new
    rwa [IntWalk.u32_in _ (by omega)] at this) fun a9 k9 => ?_
  have e1 : gt a9 m = gt a 1 := by rw [k9.old _ (by omega), k8.old _ (by omega), k7.old _ (by omega), k6.old _ (by omega), k5.old _ (by omega), k4.old _ (by omega), k3.old _ (by omega), k2.old _ (by omega), k1.new]; rfl
  have own7 : Own X.G.u8 X.base w7 (gt a 1) ds := hst.own.keep o7
  refine stC (R := fun e w' => ∃ v, e = .returned v ∧ (Own X.G.u8 X.base w' v (ds ++ uvEnc (n + un.length)) ∧ Only (fun j => X.base ≤ j) w7 w' ∧ FrU X.G.u8 w7 w')) (by rw [k9.size, k8.size, k7.size, k6.size, k5.size, k4.size, k3.size, k2.size, k1.size]; omega) hU.1 (args2 e1 k9.new)
    ((hU.2 X.base w7 _ ds (n + un.length) own7 hn (Nat.le_trans hst.base o7.size) hlen).mono fun e w' ⟨v, h, k⟩ => ⟨v, h, v, rfl, k⟩) fun v10 w10 a10 hR2 k10 => stV (by rw [k10.size, k9.size, k8.size, k7.size, k6.size, k5.size, k4.size, k3.size, k2.size, k1.size]; omega) (runs_assign _) fun a11 k11 => stE ?_
  obtain ⟨v, e', q1, q2, q3⟩ := hR2
  obtain rfl : v10 = v := by simpa using e'
  rw [evT, k10.new] at k11
  have g11 : Ag (fun j => j = 1 ∨ (m ≤ j ∧ j < m + 10)) a a11 := ⟨by rw [k11.size, k10.size, k9.size, k8.size, k7.size, k6.size, k5.size, k4.size, k3.size, k2.size, k1.size], by rw [k11.defers, k10.defers, k9.defers, k8.defers, k7.defers, k6.defers, k5.defers, k4.defers, k3.defers, k2.defers, k1.defers], fun j hj => by
    rw [k11.old j (by omega), k10.old j (by omega), k9.old j (by omega), k8.old j (by omega), k7.old j (by omega), k6.old j (by omega), k5.old j (by omega), k4.old j (by omega), k3.old j (by omega), k2.old j (by omega), k1.old j (by omega)]⟩
  have oA : Only (fun j => X.base ≤ j) w w10 := (o7.none _).trans q2
  exact h a11 w10 g11 oA ((frU_ok _).trans ((frU_ok _).none o7) q3) (hst.next (k := X.fs + 1) (m := m) (g11.mono fun j hj => by unfold Cw; omega) (by omega) (by omega) (by rw [k11.new]; exact q1) oA)

theorem gEach_wp (hq : X.q = true) {Z : ZGn} (hE : TEachC X.P X.G.u8 Z.fe X.q) {oT : Nat} {T m b lo hi : Nat} {c : Code} (hf : FieldAt X.P T Z.i oT Z.u 1) {a : Act} {w : World} {ds : List UInt8} {un : List (Nat × List UInt8)}
    (hst : SA X a w ds) (h0 : gt a 0 = .pointer (some ⟨b, 0, none⟩)) (hH : Holds X.D .tags w lo hi b oT (.tags un)) (hup : upTags 0 un) (hn : un.length < 4294967296) (hb : b < X.base) (hhi : hi ≤ X.base) (hm : 6 < m) (hN : m + 5 ≤ X.N) (hlen : ds.length + (encTags un).length + 16 ≤ lim2)
    (h : ∀ a' w', Ag (fun j => j = 1 ∨ (m ≤ j ∧ j < m + 5)) a a' → Only (fun j => X.base ≤ j) w w' → SA X a' w' (ds ++ encTags un) → Q .normal a' w') : (gEach X.G Z T m c).wp X.P Q a w := by
  have hfs := X.fs_le
  have hsz := hst.size
  obtain ⟨hle, cs, hc1, hc2⟩ := hH
  refine wp_reg (stV (by omega) (runs_move _) fun a1 k1 => stV (by rw [k1.size]; omega) (runs_nilCheck (p := ⟨b, 0, none⟩) (by rw [evT, k1.new, evT, h0])) fun a2 k2 => stV (v := .pointer (some ⟨b, oT, none⟩)) (by rw [k2.size, k1.size]; omega) (by
    have := runs_fieldAddr (P := X.P) (a := a2) (w := w) hf (p := ⟨b, 0, none⟩) (x := .tmp (m + 1)) k2.new
    rwa [Addr.add_lit, Nat.zero_add] at this) fun a3 k3 => stV (by rw [k3.size, k2.size, k1.size]; omega) (runs_move _) fun a4 k4 => ?_)
  have e1 : gt a4 (m + 3) = gt a 1 := by rw [k4.new, evT, k3.old _ (by omega), k2.old _ (by omega), k1.old _ (by omega)]
  refine stC (R := fun e w' => ∃ v, e = .returned v ∧ (Own X.G.u8 X.base w' v (ds ++ encTags un) ∧ Only (fun j => X.base ≤ j) w w')) (by rw [k4.size, k3.size, k2.size, k1.size]; omega) hE.1 (args2 (by rw [k4.old _ (by omega)]; exact k3.new) e1)
    ((hE.2 X.D X.base w _ ds b oT lo hi cs un hst.own hc1 hc2 hup hn hb hhi (fun h => by rw [hq] at h; cases h) hst.db hst.base hlen).mono fun e w' ⟨v, h, k⟩ => ⟨v, h, v, rfl, k⟩) fun v10 w10 a10 hR2 k10 => stV (by rw [k10.size, k4.size, k3.size, k2.size, k1.size]; omega) (runs_assign _) fun a11 k11 => stE ?_
  obtain ⟨v, e', q1, q2⟩ := hR2
  obtain rfl : v10 = v := by simpa using e'
  rw [evT, k10.new] at k11
  have g11 : Ag (fun j => j = 1 ∨ (m ≤ j ∧ j < m + 5)) a a11 := ⟨by rw [k11.size, k10.size, k4.size, k3.size, k2.size, k1.size], by rw [k11.defers, k10.defers, k4.defers, k3.defers, k2.defers, k1.defers], fun j hj => by
    rw [k11.old j (by omega), k10.old j (by omega), k4.old j (by omega), k3.old j (by omega), k2.old j (by omega), k1.old j (by omega)]⟩
  exact h a11 w10 g11 q2 (hst.next (k := X.fs + 1) (m := m) (g11.mono fun j hj => by unfold Cw; omega) (by omega) (by omega) (by rw [k11.new]; exact q1) q2)
end
end Go.Proofs.YtpefipjgcpchaaaGreatDoorR.Kf

namespace Go.Proofs.YtpefipjgcpchaaaGreatDoorR.Kf
set_option linter.unusedVariables false
set_option linter.unusedSimpArgs false
open Go Go.RowKit

theorem row_frU {base e u size n : Nat} {w w' : World} {v : Value} {xs : List Value} (h : w.ownsRow base e size v n xs) (hf : FrU u w w') (hu : u ≠ e) : w'.ownsRow base e size v n xs := by
  have hlt := World.ownsRow.lt h
  refine row_keepB h fun g hg => hf g (hlt g hg).2 fun cur hc => ?_
  rcases h.2 with ⟨rfl, _⟩ | ⟨g', cap, cur', rfl, _, hg', _⟩
  · cases hg
  · have e : g' = g := by simpa [Value.ownBlock] using hg
    subst e
    rw [hg'] at hc
    simp at hc
    exact hu hc.2.symm

/-- What the writing of tags rests on. -/
structure TgOk (P : Program) (G : Hn) (Z : ZGn) (Fr : World → World → Prop) (N T k m oT : Nat) (gs : List TA) (c : Code) : Prop where
  hFr : FrOk Fr
  sl : ∃ e, P.underlying G.sl = some (.slice e)
  uv : UvF P G.u8 Z.uv Fr
  uvU : UvF P G.u8 Z.uv (FrU G.u8)
  fl : TLenC P Z.fl
  fe : TEachC P G.u8 Z.fe true
  ne : G.u8 ≠ G.u32
  one : One P G.u32
  ksS : ∃ eb zs, Sl P Z.ks 1 eb zs
  fT : FieldAt P T Z.i oT Z.u 1
  gsk : ∀ g ∈ gs, g.ok P G.u8 true true Fr T
  uq : ∀ g ∈ gs, ∀ g' ∈ gs, g.key = g'.key → g = g'
  cnd : CndAll P G.u32 N k gs m (pc c [1])
  siz : SizAll P G Fr N gs (k + 3) (m + TA.tcs gs + 10 + 7) (pc (pc (pc (pc (pc c [1]) (pth1 gs.length)) [1, 0]) [1, 0, 0, 1, 1, 0, 0]) [1, 1, 0])
  fr : gs.length ≤ 1 ∨ ∀ w w', Fr w w' → FrU G.u8 w w'
  short : gs.length ≤ 900

section
variable {X : AX} {Q : Exit → Act → World → Prop} {Fr : World → World → Prop}

theorem knT_len (gE : List (TA × Option (List UInt8))) : (knT gE).length ≤ gE.length := List.length_filterMap_le _ _
theorem knT_mem {gE : List (TA × Option (List UInt8))} {x : Nat × List UInt8} (h : x ∈ knT gE) : ∃ g, (g, some x.2) ∈ gE ∧ g.key = x.1 := by
  obtain ⟨⟨g, E⟩, h1, h2⟩ := List.mem_filterMap.1 h
  cases E with
  | none => cases h2
  | some E =>
    simp at h2
    subst h2
    exact ⟨g, h1, rfl⟩

/-- The tags are written. -/
theorem gTgB_wp (hX : AOk X) (hq : X.q = true) (hfx : X.fx = true) (hfl : X.flex = true) (hv0 : 0 ≤ X.ver) {Z : ZGn} {T k m oT b lo hi : Nat} {gE : List (TA × Option (List UInt8))} {c : Code} (H : TgOk X.P X.G Z Fr X.N T k m oT (gE.map Prod.fst) c) {a : Act} {w : World} {ds : List UInt8} {un : List (Nat × List UInt8)}
    (hst : SA X a w ds) (h0 : gt a 0 = .pointer (some ⟨b, 0, none⟩)) (hV : ∀ x ∈ gE, TVal X b w x) (hH : Holds X.D .tags w lo hi b oT (.tags un)) (hup : upTags 0 un) (hun : un.length ≤ 4294900000) (hb : b < X.base) (hhi : hi ≤ X.base) (hk6 : X.fs < k) (hk : k + 3 + TA.ks (gE.map Prod.fst) ≤ X.M0) (hm : X.M0 ≤ m)
    (hN : m + TA.tcs (gE.map Prod.fst) + 23 + TA.ts (gE.map Prod.fst) ≤ X.N) (hlen : ds.length + 10 + (encTags (knT gE ++ un)).length + 64 ≤ lim2)
    (h : ∀ a' w', Ag (Cw X.M0 k m) a a' → Only (fun j => X.base ≤ j) w w' → SA X a' w' (ds ++ (uvEnc (knT gE ++ un).length ++ encTags (knT gE ++ un))) → Q .normal a' w') : (gTgB X.G Z T k m (gE.map Prod.fst) c).wp X.P Q a w := by
  have hfs := X.fs_le
  have hsz := hst.size
  have hbs := hst.base
  have hdb := hst.db
  have hM := hX.N0
  have hkl := knT_len gE
  have hgl := H.short
  have hsiz := H.siz
  rw [List.length_map] at hsiz
  rw [List.length_map] at hgl
  refine wp_seq (gConst_wp (by omega) fun a1 g1 v1 => ?_)
  have st1 : SA X a1 w ds := hst.act g1 (by omega) (by omega) (by omega)
  refine gCnds_wp (U32 := X.G.u32) H.ne hv0 gE m (pc c [1]) a1 w ds b [] H.cnd st1 ((g1.keep 0 (by omega)).trans h0) hb hV (by rw [v1]; exact World.ownsRow_nil _ _ _ _) (by simp; omega) hk6 (by omega) hm (by omega) fun a2 w2 g2 e2 o2 st2 r2 => ?_
  simp only [List.nil_append] at r2
  have hlk : ((knT gE).map Prod.fst).length = (knT gE).length := List.length_map _
  rw [hlk] at r2
  obtain ⟨A, cc, hv2⟩ := row_slice r2
  have hH2 : Holds X.D .tags w2 lo hi b oT (.tags un) := hH.keep (o2.block _ (by omega) (by omega)) (fun q q1 q2 => o2.block q (by omega) (by omega)) fun _ _ => World.cell?_of_block (w := w) (o2.block b (by omega) (by omega))
  have z2 : gt a2 0 = .pointer (some ⟨b, 0, none⟩) := (g2.keep 0 (by unfold Cw; omega)).trans ((g1.keep 0 (by omega)).trans h0)
  obtain ⟨eb, zs, hS⟩ := H.ksS
  have hcnt : (knT gE).length + un.length < 4294967296 := by
    clear hlen
    omega
  rw [encTgs_app, List.length_append] at hlen
  refine wp_seq (gCnt_wp hX hfx H.uvU H.fl H.fT (by obtain ⟨E, hE, _⟩ := hS.ex; exact ⟨E, hE⟩) st2 hv2 z2 hH2 hcnt (by omega) (by omega) (by omega) (by omega) (by omega) fun a3 w3 g3 o3 f3 st3 => ?_)
  have r3 := row_frU r2 f3 H.ne
  have o23 := o2.trans o3
  have hu10 : (uvEnc ((knT gE).length + un.length)).length ≤ 10 := uvEncF_len10 10 _
  refine wp_seq (gLoopW_wp hX H.hFr hq hfx hfl H.sl H.uv H.ne H.one hS (gs := gE.map Prod.fst) (kn := knT gE) (b := b) (fun g hg => by rw [hq, hfx]; exact H.gsk g hg) H.uq hsiz st3 (by rw [g3.keep k (by omega)]) r3 ((g3.keep 0 (by omega)).trans z2) hb (fun x hx => ?_) (by omega) ?_ hk6 (by omega) (by omega) (by omega) (by rw [List.length_append]; omega) fun a4 w4 g4 o4 st4 => ?_)
  · obtain ⟨g, hg, hgk⟩ := knT_mem hx
    have := (hV _ hg).keep hbs hb hdb o23
    exact ⟨g, List.mem_map.2 ⟨_, hg, rfl⟩, hgk, this.1, this.2⟩
  · rcases H.fr with h | h
    · rw [List.length_map] at h
      exact .inl (by omega)
    · exact .inr h
  · have o24 := o23.trans o4
    have hH4 : Holds X.D .tags w4 lo hi b oT (.tags un) := hH.keep (o24.block _ (by omega) (by omega)) (fun q q1 q2 => o24.block q (by omega) (by omega)) fun _ _ => World.cell?_of_block (w := w) (o24.block b (by omega) (by omega))
    refine gEach_wp hq (by rw [hq]; exact H.fe) H.fT st4 ((g4.keep 0 (by unfold Cw; omega)).trans ((g3.keep 0 (by omega)).trans z2)) hH4 hup (by omega) hb hhi (by omega) (by omega) (by rw [List.length_append, List.length_append]; omega) fun a5 w5 g5 o5 st5 => ?_
    refine h a5 w5 ((((g1.mono fun j hj => by unfold Cw; omega).trans g2).trans (g3.mono fun j hj => by unfold Cw; omega)).trans ((g4.cw (by omega) (by omega)).trans (g5.mono fun j hj => by unfold Cw; omega))) (o24.trans o5) ?_
    rw [encTgs_app, List.length_append]
    simpa [List.append_assoc] using st5
end

def gTailWT (G : Hn) (Z : ZGn) (T k m : Nat) (gs : List TA) (c1 : Code) : Code := .seq (.seq (gMove 6 m (pc c1 [0, 0])) (.cond (.tmp m) (gTgB G Z T k (m + 1) gs (pc c1 [0, 1, 0])) .skip)) (gTailW (m + 1 + TA.tcs gs + 23 + TA.ts gs) (pc c1 [1]))
/-- The code that writes a message with tagged lists (c1: what stands behind the fields). -/
def gWriteT (G : Hn) (Z : ZGn) (T i16 M0 : Nat) (n : Int) (r : A) (gs : List TA) (c1 c : Code) : Code :=
  .seq (reg [⟨some 4, .assign (.const (.slice none 0 0)), none⟩] (pc c [0])) (.seq (gLoad T 0 i16 0 5 M0 (pc c [1, 0])) (.seq (gMove 5 (M0 + 4) (pc c [1, 1, 0]))
    (.seq (reg [⟨some (M0 + 5), .move (.tmp 5), none⟩, ⟨some (M0 + 6), .binOp .geq i16 (.tmp (M0 + 5)) (.const (.int .i16 n)) i16, none⟩, ⟨some 6, .assign (.tmp (M0 + 6)), none⟩] (pc c [1, 1, 1, 0]))
      (.seq (gMove 6 (M0 + 7) (pc c [1, 1, 1, 1, 0])) (gA G r T 0 7 (M0 + 8) (some fun _ => gTailWT G Z T (7 + r.k) (M0 + 8 + r.t) gs c1) (pc c [1, 1, 1, 1, 1]))))))

/-- What such a message's writing rests on. -/
structure MsgWT (P : Program) (G : Hn) (Z : ZGn) (Fr : World → World → Prop) (T i16 M0 NT oT : Nat) (n : Int) (r : A) (gs : List TA) (c1 : Code) : Prop where
  int : P.underlying G.int = some (.int .i64)
  u32 : P.underlying G.u32 = some (.int .u32)
  i16o : One P i16
  f0 : FieldAt P T 0 0 i16 1
  ro : r.ok P G.u8 true true T
  tg : TgOk P G Z Fr NT T (7 + r.k) (M0 + 8 + r.t + 1) oT gs (pc c1 [0, 1, 0])
  M : M0 = 7 + r.k + 3 + TA.ks gs
  N : M0 + 8 + r.t + 1 + TA.tcs gs + 23 + TA.ts gs < NT

/-- Where a message's writing stands. -/
def axOf (P : Program) (G : Hn) (D base : Nat) (ver : Int) (flex : Bool) (N M0 : Nat) : AX := { P := P, G := G, D := D, base := base, ver := ver, fx := true, flex := flex, N := N, M0 := M0, q := true }

/-- A MESSAGE's WRITING, with tags. -/
theorem appendToT_calls {P : Program} {G : Hn} {Z : ZGn} {Fr : World → World → Prop} {T i16 M0 NT oT : Nat} {n : Int} {r : A} {gs : List TA} {c1 : Code} (H : MsgWT P G Z Fr T i16 M0 NT oT n r gs c1) {F : Nat} {fn : Func} (hfn : P.funcs[F]? = some fn) (c0 : Code) (hbody : fn.body = some (gWriteT G Z T i16 M0 n r gs c1 c0)) (hres : fn.results = #[.tmp 4]) (hnt : fn.ntmps = NT)
    {w : World} {D b lo hi lo2 hi2 : Nat} {ver : Int} {x : Val} {gE : List (TA × Option (List UInt8))} {un : List (Nat × List UInt8)} (hgE : gE.map Prod.fst = gs) (hver : w.cell? ⟨b, 0, none⟩ = some (.int .i16 ver)) (hv0 : 0 ≤ ver) (hH : Holds D (r.m ver (decide (ver ≥ n))) w lo hi b 0 x) (hw : wf (r.m ver (decide (ver ≥ n))).w x)
    (hV : decide (ver ≥ n) = true → ∀ y ∈ gE, TVal (axOf P G D w.heap.size ver (decide (ver ≥ n)) NT M0) b w y) (hT : Holds D .tags w lo2 hi2 b oT (.tags un)) (hup : upTags 0 un) (hun : un.length ≤ 4294900000) (hhi2 : hi2 ≤ w.heap.size)
    (hlen : (enc (r.m ver (decide (ver ≥ n))).w x).length + (encTags (knT gE ++ un)).length + 100 ≤ lim2)
    (hb : b < w.heap.size) (hhi : hi ≤ w.heap.size) (hD : D < w.heap.size) :
    Calls P F #[.pointer (some ⟨b, 0, none⟩), .slice none 0 0] w fun e w' => ∃ v, e = .returned v ∧ Own G.u8 w.heap.size w' v (enc (r.m ver (decide (ver ≥ n))).w x ++ tgB (decide (ver ≥ n)) (knT gE ++ un)) ∧ Only (fun _ => False) w w' := by
  subst hgE
  refine calls_of_wp hfn hbody ?_
  have hM := H.M
  have hN := H.N
  obtain ⟨a, ha⟩ : ∃ a : Act, a = { tmps := #[.pointer (some ⟨b, 0, none⟩), .slice none 0 0] ++ Array.replicate (fn.ntmps - (#[.pointer (some ⟨b, 0, none⟩), .slice none 0 0] : Array Value).size) undef, defers := [] } := ⟨_, rfl⟩
  rw [← ha]
  have asz : a.tmps.size = NT := by rw [ha]; simp [hnt]; omega
  have adf : a.defers = [] := by rw [ha]
  have a0 : gt a 0 = .pointer (some ⟨b, 0, none⟩) := by rw [ha]; exact gt_app _ _ 0 _ rfl
  have a1 : gt a 1 = .slice none 0 0 := by rw [ha]; exact gt_app _ _ 1 _ rfl
  clear ha
  refine wp_seq (gNil_wp (by omega) fun a3 g3 _ => ?_)
  have s3 : a3.tmps.size = NT := g3.size.trans asz
  refine wp_seq (gLoad_wp (b := b) (off := 0) ((g3.keep 0 (by omega)).trans a0) H.f0 H.i16o (by simpa using hver) (by omega) (by omega) fun a4 g4 v4 => ?_)
  have s4 : a4.tmps.size = NT := g4.size.trans s3
  refine wp_seq (wp_reg (stV (by omega) (runs_move _) fun a5 k5 => stE ?_))
  have s5 : a5.tmps.size = NT := k5.size.trans s4
  refine wp_seq (wp_reg (stV (by omega) (runs_move _) fun a6 k6 => stV (by rw [k6.size]; omega) (runs_cmp .geq _ (.inr (.inl ⟨rfl, rfl⟩)) (k := .i16) (p := ver) (q := n) (by rw [evT, k6.new, evT, k5.old 5 (by omega), v4]) rfl) fun a7 k7 => stV (by rw [k7.size, k6.size]; omega) (runs_assign _) fun a8 k8 => stE ?_))
  rw [evT, k7.new] at k8
  have s8 : a8.tmps.size = NT := by rw [k8.size, k7.size, k6.size, s5]
  refine wp_seq (wp_reg (stV (by omega) (runs_move _) fun a9 k9 => stE ?_))
  have s9 : a9.tmps.size = NT := by rw [k9.size, s8]
  have f9 : ∀ j, j < 4 → gt a9 j = gt a j := fun j hj => by rw [k9.old j (by omega), k8.old j (by omega), k7.old j (by omega), k6.old j (by omega), k5.old j (by omega), g4.keep j (by omega), g3.keep j (by omega)]
  let X : AX := axOf P G D w.heap.size ver (decide (ver ≥ n)) NT M0
  have hX : AOk X := ⟨H.int, H.u32, by show 7 ≤ M0; omega⟩
  have hown : Own G.u8 w.heap.size w (.slice none 0 0) [] := World.ownsRow_nil _ _ _ _
  have st : SA X a9 w [] := by
    refine ⟨s9, ?_, ?_, fun _ => ?_, ?_, Nat.le_refl _, hD⟩
    · rw [k9.defers, k8.defers, k7.defers, k6.defers, k5.defers, g4.defers, g3.defers, adf]
    · show gt a9 5 = .int .i16 ver
      rw [k9.old 5 (by omega), k8.old 5 (by omega), k7.old 5 (by omega), k6.old 5 (by omega), k5.old 5 (by omega), v4]
    · show gt a9 6 = .bool (decide (ver ≥ n))
      rw [k9.old 6 (by omega), k8.new]
    · rw [f9 1 (by decide), a1]; exact hown
  have fin : ∀ (m : Nat), m < NT → ∀ a' w' out, Only (fun j => w.heap.size ≤ j) w w' → SA X a' w' out → out = enc (r.m ver (decide (ver ≥ n))).w x ++ tgB (decide (ver ≥ n)) (knT gE ++ un) → ∀ c, (gTailW m c).wp P (bodyPost P fn fun e w' => ∃ v, e = .returned v ∧ Own G.u8 w.heap.size w' v (enc (r.m ver (decide (ver ≥ n))).w x ++ tgB (decide (ver ≥ n)) (knT gE ++ un)) ∧ Only (fun _ => False) w w') a' w' := by
    intro m hm a' w' out ho hst hout c
    subst hout
    have s' : a'.tmps.size = NT := hst.size
    refine wp_seq (gCopy_wp (by omega) (by omega) fun a6 g6 v6 => wp_ret ?_)
    refine bodyPost_ret (results_tmp hres _ _ _) (g6.defers.trans hst.defers) ?_
    have e6 : a6.tmps.getD 4 undef = gt a' 1 := v6
    rw [e6]
    exact ⟨_, rfl, hst.own, ⟨ho.os, ho.tape, ho.output, ho.size, fun k hk _ => ho.block k hk (by omega)⟩⟩
  refine A_writes (X := X) hX r T 0 7 (M0 + 8) b 0 lo hi _ _ a9 w [] x H.ro ⟨st, (f9 0 (by decide)).trans a0, hH, hw, by simp only [List.length_nil, Nat.zero_add]; show (enc (r.m ver (decide (ver ≥ n))).w x).length + 16 ≤ lim2; omega, hb, hhi, (fun h => by cases h), hD, by decide, (by show (if true = true then 6 else 5) < 7; decide), by decide, by show 7 + r.k ≤ M0; omega, by show M0 ≤ M0 + 8; omega, by show M0 + 8 + r.t ≤ NT; omega⟩ _ fun a' w' h1 h2 h3 => ?_
  show ∀ c : Code, (gTailWT G Z T (7 + r.k) (M0 + 8 + r.t) (gE.map Prod.fst) c1).wp P _ a' w'
  intro _
  rw [List.nil_append] at h3
  have h2 : Only (fun j => w.heap.size ≤ j) w w' := h2
  have h3 : SA X a' w' (enc (r.m ver (decide (ver ≥ n))).w x) := h3
  have s' : a'.tmps.size = NT := h3.size
  have fl' : gt a' 6 = .bool (decide (ver ≥ n)) := h3.fl rfl
  refine wp_seq (wp_seq (wp_reg (stV (by omega) (runs_move _) fun b1 k1 => stE (wp_cond (t := decide (ver ≥ n)) (by rw [evT, k1.new, evT]; exact fl') ?_))))
  have hfsX : X.fs = 6 := rfl
  have stb : SA X b1 w' (enc (r.m ver (decide (ver ≥ n))).w x) := h3.act (S := fun j => j = M0 + 8 + r.t) ⟨k1.size, k1.defers, k1.old⟩ (by omega) (by omega) (by rw [hfsX]; omega)
  rcases (Bool.eq_false_or_eq_true (decide (ver ≥ n))).symm with hf | hf
  · rw [if_neg (by rw [hf]; decide)]
    refine wp_skip (fin _ (by omega) b1 w' _ h2 stb ?_ _)
    rw [hf]
    simp [tgB]
  · rw [if_pos hf]
    have hfX : X.flex = true := hf
    have e0 : gt b1 0 = .pointer (some ⟨b, 0, none⟩) := by
      have h1 : Ag (Cw M0 7 (M0 + 8)) a9 a' := h1
      rw [k1.old 0 (by omega), h1.keep 0 (by unfold Cw; omega)]
      exact (f9 0 (by decide)).trans a0
    have hT' : Holds D .tags w' lo2 hi2 b oT (.tags un) := hT.keep (h2.block _ hD (by omega)) (fun q q1 q2 => h2.block q (by omega) (by omega)) fun _ _ => World.cell?_of_block (w := w) (h2.block b hb (by omega))
    refine gTgB_wp (X := X) hX rfl rfl hfX hv0 (gE := gE) (b := b) (lo := lo2) (hi := hi2) (un := un) H.tg stb e0 (fun y hy => (hV hf y hy).keep (Nat.le_refl _) hb hD h2) hT' hup hun hb hhi2 (by rw [hfsX]; omega) (by show 7 + r.k + 3 + TA.ks (gE.map Prod.fst) ≤ M0; omega) (by show M0 ≤ M0 + 8 + r.t + 1; omega) (by show M0 + 8 + r.t + 1 + TA.tcs (gE.map Prod.fst) + 23 + TA.ts (gE.map Prod.fst) ≤ NT; omega) (by omega) fun a2 w2 q1 q2 q3 => ?_
    refine fin _ (by omega) a2 w2 _ (h2.trans q2) q3 ?_ _
    rw [hf]
    simp [tgB]
end Go.Proofs.YtpefipjgcpchaaaGreatDoorR.Kf

namespace Go.Proofs.YtpefipjgcpchaaaGreatDoorR.Kf
set_option linter.unusedVariables false
set_option linter.unusedSimpArgs false
open Go Go.RowKit

/-! ### regions that draw their order -/
/-- A plan: which operation next: one that may be taken first (true), or the only one that may come up. -/
def sched (ops : Array Oper) : List (Nat × Bool) → Array Bool → Bool
  | [], l => (Region.ready .any ops l).isEmpty
  | (i, true) :: s, l => Region.free .any ops l i && ((Region.ready .any ops l).contains i && sched ops s (l.setIfInBounds i true))
  | (i, false) :: s, l => (Region.ready .any ops l == [i]) && sched ops s (l.setIfInBounds i true)
def wpS (P : Program) (ops : Array Oper) (Q : Exit → Act → World → Prop) : List (Nat × Bool) → Act → World → Prop
  | [], a, w => Q .normal a w
  | (i, true) :: s, a, w => ∃ o v, ops[i]? = some o ∧ Yields P ops o v a ∧ wpS P ops Q s (a.put o.dst v) w
  | (i, false) :: s, a, w => wpOp P ops Q i (wpS P ops Q s) a w
theorem wpS_any {P : Program} {ops : Array Oper} {Q : Exit → Act → World → Prop} (hs : Region.noSelect ops = true) (hQ : ∀ c a w, ¬ Q (.panic c) a w) : ∀ (s : List (Nat × Bool)) (l : Array Bool) (a : Act) (w : World) (fuel : Nat), s.length ≤ fuel → sched ops s l = true → wpS P ops Q s a w → wpAny P .any ops Q fuel l a w := by
  intro s
  induction s with
  | nil =>
    intro l a w fuel _ hc h
    exact wpAny_done (by simpa [sched] using hc) h fuel
  | cons x s ih =>
    intro l a w fuel hf hc h
    obtain ⟨i, b⟩ := x
    obtain ⟨f, rfl⟩ : ∃ f, fuel = f + 1 := ⟨fuel - 1, by simp at hf; omega⟩
    cases b with
    | true =>
      simp only [sched, Bool.and_eq_true] at hc
      obtain ⟨o, v, h1, h2, h3⟩ := h
      exact wpAny_take h1 hs hc.1 hc.2.1 (fun c a w h => absurd h (hQ c _ _)) h2 (ih _ _ _ f (by simp at hf; omega) hc.2.2 h3)
    | false =>
      simp only [sched, Bool.and_eq_true, beq_iff_eq] at hc
      refine wpAny_all hc.1 (by simp) fun j hj => ?_
      obtain rfl : j = i := by simpa using hj
      exact wpOp_mono (fun a' w' h' => ih _ a' w' f (by simp at hf; omega) hc.2 h') h
/-- Q, but no way out by a panic. -/
def NoPn (Q : Exit → Act → World → Prop) : Exit → Act → World → Prop
  | .panic _, _, _ => False
  | e, a, w => Q e a w
theorem wp_sched {P : Program} {Q : Exit → Act → World → Prop} {id : Nat} {ops : Array Oper} {a : Act} {w : World} (s : List (Nat × Bool)) (hm : P.follows .mixedOrders = true) (hs : Region.noSelect ops = true) (hc : sched ops s (Array.replicate ops.size false) = true) (hl : s.length ≤ ops.size)
    (h : wpS P ops (NoPn Q) s a { w with drawn := w.drawn + 1 }) : (Code.region id ops true).wp P Q a w :=
  Code.wp_mono (fun e a w h => by cases e <;> first | exact h | exact (h : False).elim) (wp_region_any hm (wpS_any hs (fun _ _ _ h => h) s _ a _ _ hl hc h))
theorem mkOps_get : ∀ (cs : List Core) (os : List Oper) (i : Nat) (c : Core), cs[i]? = some c → ∃ o, (mkOps cs os)[i]? = some (mkOp c o) := by
  intro cs
  induction cs with
  | nil => intro os i c h; simp at h
  | cons x cs ih =>
    intro os i c h
    obtain ⟨o, os', e⟩ := mkOps_cons x cs os
    rw [e]
    cases i with
    | zero => simp at h; subst h; exact ⟨o, rfl⟩
    | succ i => simpa using ih os' i c (by simpa using h)
theorem mkOps_len : ∀ (cs : List Core) (os : List Oper), (mkOps cs os).length = cs.length := by
  intro cs
  induction cs with
  | nil => intro os; rfl
  | cons x cs ih =>
    intro os
    cases os with
    | nil => simp [mkOps, ih]
    | cons o os => simp [mkOps, ih]

section
variable {P : Program} {Q : Exit → Act → World → Prop} {cs : List Core} {os : List Oper} {a : Act} {w : World}

theorem sTake {i d : Nat} {op : Op} {v : Value} {s : List (Nat × Bool)} (hc : cs[i]? = some ⟨some d, op, none⟩) (hd : d < a.tmps.size) (hr : ∀ w, Runs P a w op v w) (h : ∀ a', Nx a d v a' → wpS P (mkOps cs os).toArray Q s a' w) : wpS P (mkOps cs os).toArray Q ((i, true) :: s) a w := by
  obtain ⟨o, ho⟩ := mkOps_get cs os i _ hc
  exact ⟨_, v, by simpa using ho, .inl ⟨rfl, fun w => hr w (mkOp ⟨some d, op, none⟩ o) rfl⟩, h _ (Nx.mk' hd)⟩
theorem sOnly {i d : Nat} {op : Op} {v : Value} {w' : World} {s : List (Nat × Bool)} (hc : cs[i]? = some ⟨some d, op, none⟩) (hd : d < a.tmps.size) (hr : Runs P a w op v w') (h : ∀ a', Nx a d v a' → wpS P (mkOps cs os).toArray Q s a' w') : wpS P (mkOps cs os).toArray Q ((i, false) :: s) a w := by
  obtain ⟨o, ho⟩ := mkOps_get cs os i _ hc
  have ho' : (mkOps cs os).toArray[i]? = some (mkOp ⟨some d, op, none⟩ o) := by simpa using ho
  show wpOp P _ Q i _ a w
  unfold wpOp
  rw [ho']
  have hr' := hr (mkOp ⟨some d, op, none⟩ o) rfl
  have hw : Region.wanted (mkOp ⟨some d, op, none⟩ o) (yielded (mkOps cs os).toArray a.tmps) = true := rfl
  simp only [hw, if_true, Oper.wp, hr', Oper.upon]
  exact .inl (h _ (Nx.mk' hd))
theorem sCall {i d f : Nat} {args : Array Operand} {ats : Array TypeId} {vs : Array Value} {R : Ending → World → Prop} {s : List (Nat × Bool)} (hc : cs[i]? = some ⟨some d, .call ⟨.value (.func f), args, ats⟩, none⟩) (hd : d < a.tmps.size) (hp : Plain P f) (he : args.map a.eval = vs)
    (hC : Calls P f vs w fun e w' => ∃ v, e = .returned v ∧ R (.returned v) w') (h : ∀ v w' a', R (.returned v) w' → Nx a d v a' → wpS P (mkOps cs os).toArray Q s a' w') : wpS P (mkOps cs os).toArray Q ((i, false) :: s) a w := by
  obtain ⟨o, ho⟩ := mkOps_get cs os i _ hc
  have ho' : (mkOps cs os).toArray[i]? = some (mkOp ⟨some d, .call ⟨.value (.func f), args, ats⟩, none⟩ o) := by simpa using ho
  show wpOp P _ Q i _ a w
  unfold wpOp
  rw [ho']
  have hw : Region.wanted (mkOp ⟨some d, .call ⟨.value (.func f), args, ats⟩, none⟩ o) (yielded (mkOps cs os).toArray a.tmps) = true := rfl
  have hr : (execOp a.eval (mkOp ⟨some d, .call ⟨.value (.func f), args, ats⟩, none⟩ o)).run P w = .ok (.enter f (args.map a.eval)) w := by
    simp [execOp, mkOp, resolve, Act.eval, Deferred.ofValue, invoke, hp.run]
  simp only [hw, if_true, Oper.wp, hr, Oper.upon]
  refine .inl ?_
  rw [he]
  refine hC.mono ?_
  rintro _ w'' ⟨v, rfl, hR⟩
  exact h v w'' _ hR (Nx.mk' hd)
end

/-! ### an unknown tag -/
/-- Tags' Set, of tags within a block. -/
def SetC (P : Program) (K : TypeId) (F : Nat) : Prop := Plain P F ∧ ∀ (D base b oT NB n key : Nat) (w : World) (nn : Bool) (s : List UInt8) (v tv : Value) (acc : List (Nat × List UInt8)), Sp w D nn v s → Blk w b NB → w.cell? ⟨b, oT, none⟩ = some tv → TagsV P K w D base n acc tv → upTags 0 acc → key < 4294967296 →
  D < base → b < base → b ≠ D → base ≤ w.heap.size → n < maxLen →
  Calls P F #[.pointer (some ⟨b, oT, none⟩), .int .u32 key, v] w fun e w' => ∃ u, e = .returned u ∧ Only (fun j => j = b ∨ tv = .map (some j)) w w' ∧ Upd b oT (oT + 1) w w' ∧ ∃ tv', w'.cell? ⟨b, oT, none⟩ = some tv' ∧ TagsV P K w' D base (n + 1) (tset key s acc) tv'
def unkCs (G : Gn) (Y : TGn) (T s k m : Nat) : List Core := [⟨some m, .move (.tmp s), none⟩, ⟨some (m + 1), .nilCheck (.tmp m), none⟩, ⟨some (m + 2), .fieldAddr T (.tmp (m + 1)) Y.i, none⟩, ⟨some (m + 3), .move (.tmp k), none⟩, ⟨some (m + 4), .call ⟨.value (.func Y.uv), #[.tmp G.rs], #[G.rt]⟩, none⟩,
  ⟨some (m + 5), .convert Y.u32 Y.int (.tmp (m + 4)), none⟩, ⟨some (m + 6), .call ⟨.value (.func Y.sp), #[.tmp G.rs, .tmp (m + 5)], #[G.rt, Y.int]⟩, none⟩, ⟨some (m + 7), .call ⟨.value (.func Y.set), #[.tmp (m + 2), .tmp (m + 3), .tmp (m + 6)], #[Y.ptg, Y.u32, Y.sl]⟩, none⟩]
def unkS8 : List (Nat × Bool) := [(0, true), (1, true), (2, true), (3, true), (4, false), (5, true), (6, false), (7, false)]
theorem unk_of {P : Program} {G : Gn} {Y : TGn} {K : TypeId} {T s k m N oT u NB : Nat} {c : Code} (hm : P.follows .mixedOrders = true) (hns : Region.noSelect (mkOps (unkCs G Y T s k m) (Code.ops0 c)).toArray = true)
    (hsch : sched (mkOps (unkCs G Y T s k m) (Code.ops0 c)).toArray unkS8 (Array.replicate 8 false) = true) (hU : UvrC P Y.uv) (hS : SpanC P Y.sp) (hT : SetC P K Y.set) (hu : P.underlying Y.u32 = some (.int .u32)) (hi : P.underlying Y.int = some (.int .i64)) (hf : FieldAt P T Y.i oT u 1) (hN : m + 8 ≤ N) (hsm : s < m) (hkm : k < m) (hrm : G.rs < m) :
    UnkC P K oT N s k G.rs m NB (gUnk G Y T s k m c) := by
  intro Q a w D rb b base n key nn bad bs tv acc hsz hdf h0 hk hrs hkey hrd hlm hb htv hTV hup hDb hbb hrb hbs hbr hbD hn h
  have hsz8 : (mkOps (unkCs G Y T s k m) (Code.ops0 c)).toArray.size = 8 := by simp [mkOps_len, unkCs]
  refine wp_sched (ops := (mkOps (unkCs G Y T s k m) (Code.ops0 c)).toArray) unkS8 hm hns (by rw [hsz8]; exact hsch) (by rw [hsz8]; decide) ?_
  have hrlt := hrd.lt
  have hblt := hb.lt
  have hDl : D < w.heap.size := by omega
  obtain ⟨_, _, _, _, hDrb, _⟩ := id hrd
  -- the world behind the draw
  generalize hwd : ({ w with drawn := w.drawn + 1 } : World) = wd
  have hwh : wd.heap = w.heap := by rw [← hwd]
  have od : Only (fun _ => False) w wd := by rw [← hwd]; exact ⟨rfl, rfl, rfl, Nat.le_refl _, fun _ _ _ => rfl⟩
  have hrd0 : Rd D rb wd nn bs bad := hrd.keep (by rw [hwh]) (by rw [hwh])
  refine sTake rfl (by omega) (fun w => runs_move _) fun a1 k1 => sTake (i := 1) rfl (by rw [k1.size]; omega) (fun w => runs_nilCheck (p := ⟨b, 0, none⟩) (by rw [evT, k1.new]; exact h0)) fun a2 k2 =>
    sTake (i := 2) (v := .pointer (some ⟨b, oT, none⟩)) rfl (by rw [k2.size, k1.size]; omega) (fun w => by
      have := runs_fieldAddr (P := P) (a := a2) (w := w) hf (p := ⟨b, 0, none⟩) (x := .tmp (m + 1)) k2.new
      rwa [Addr.add_lit, Nat.zero_add] at this) fun a3 k3 => sTake (i := 3) (v := .int .u32 key) rfl (by rw [k3.size, k2.size, k1.size]; omega) (fun w => by
      have := runs_move (P := P) (a := a3) (w := w) (.tmp k)
      rwa [evT, k3.old _ (by omega), k2.old _ (by omega), k1.old _ (by omega), hk] at this) fun a4 k4 => ?_
  have rs4 : gt a4 G.rs = .pointer (some ⟨rb, 0, none⟩) := by rw [k4.old _ (by omega), k3.old _ (by omega), k2.old _ (by omega), k1.old _ (by omega)]; exact hrs
  have s4 : a4.tmps.size = N := by rw [k4.size, k3.size, k2.size, k1.size, hsz]
  refine sCall (i := 4) (R := UvrP D rb wd bs bad) rfl (by omega) hU.1 (args1 rs4) ((hU.2 D rb wd nn bs bad hrd0 hlm).mono fun e w' h => by obtain ⟨x, rfl, k⟩ := h; exact ⟨_, rfl, x, rfl, k⟩) fun v5 w5 a5 hR k5 => ?_
  obtain ⟨x, nn1, bs1, bad1, e1, hx, o1, r1, l1, hu1⟩ := uvS_one hR
  obtain rfl : v5 = .int .u32 x := by simpa using e1
  refine sTake (i := 5) (v := .int .i64 (x : Int)) rfl (by rw [k5.size]; omega) (fun w => by
    have := runs_conv (P := P) (a := a5) (w := w) hu hi (x := .tmp (m + 4)) k5.new
    rwa [wrapU hx] at this) fun a6 k6 => ?_
  have s6 : a6.tmps.size = N := by rw [k6.size, k5.size, s4]
  refine sCall (i := 6) (R := SpanP D rb w5 nn1 bs1 bad1 (x : Int)) rfl (by omega) hS.1 (args2 (by rw [k6.old _ (by omega), k5.old _ (by omega)]; exact rs4) k6.new) ((hS.2 D rb w5 nn1 bs1 bad1 (x : Int) r1 (by omega) (by omega) (by omega)).mono fun e w' h => by obtain ⟨v, rfl, k⟩ := h; exact ⟨v, rfl, v, rfl, k⟩) fun v7 w7 a7 hR3 k7 => ?_
  obtain ⟨v, nnv, sx, nn2, bs2, bad2, e3, o3, r3, l3, ls, hsp, hss⟩ := spS_one hR3
  obtain rfl : v7 = v := by simpa using e3
  have o7 : Only (· = rb) w w7 := (od.none _).trans (o1.trans o3)
  have hbw : w7.heap[b]? = w.heap[b]? := o7.block b hblt (by omega)
  have hsz7 := o7.size
  have htv7 : w7.cell? ⟨b, oT, none⟩ = some tv := (World.cell?_of_block (w := w) hbw).trans htv
  have hTV7 : TagsV P K w7 D base n acc tv := hTV.keepO o7 (by show ¬ D = rb; omega) hDl (fun j hj => by show ¬ j = rb; omega)
  refine sCall (i := 7) (R := fun e w' => ∃ u, e = .returned u ∧ Only (fun j => j = b ∨ tv = .map (some j)) w7 w' ∧ Upd b oT (oT + 1) w7 w' ∧ ∃ tv', w'.cell? ⟨b, oT, none⟩ = some tv' ∧ TagsV P K w' D base (n + 1) (tset key sx acc) tv') rfl (by rw [k7.size]; omega) hT.1
    (args3 (x := .pointer (some ⟨b, oT, none⟩)) (y := .int .u32 key) (by rw [k7.old _ (by omega), k6.old _ (by omega), k5.old _ (by omega), k4.old _ (by omega)]; exact k3.new) (by rw [k7.old _ (by omega), k6.old _ (by omega), k5.old _ (by omega)]; exact k4.new) k7.new)
    ((hT.2 D base b oT NB n key w7 nnv sx v7 tv acc hsp (hb.keep hbw) htv7 hTV7 hup hkey hDb hbb hbD (by omega) hn).mono fun e w' h => by obtain ⟨u, rfl, k⟩ := h; exact ⟨u, rfl, u, rfl, k⟩) fun v8 w8 a8 hR4 k8 => ?_
  obtain ⟨u, _, o8, u8, tv', c8, t8⟩ := hR4
  have hne : ∀ j, tv = .map (some j) → base ≤ j := by
    intro j hj
    rcases hTV with ⟨h, _⟩ | ⟨r, h, h2, _⟩
    · rw [h] at hj; cases hj
    · rw [h] at hj; cases hj; exact h2
  have oA : Only (fun j => j = rb ∨ j = b ∨ tv = .map (some j)) w w8 := (o7.mono fun _ _ h => .inl h).trans (o8.mono fun _ _ h => .inr h)
  have r8 : Rd D rb w8 nn2 bs2 bad2 := r3.keep (o8.block D (by omega) (by
    rintro (h | h)
    · omega
    · have := hne D h; omega)) (o8.block rb (by omega) (by
    rintro (h | h)
    · omega
    · have := hne rb h; omega))
  refine h a8 w8 x bs1 bad1 sx bs2 bad2 nn2 tv' ⟨by rw [k8.size, k7.size, s6, hsz], by rw [k8.defers, k7.defers, k6.defers, k5.defers, k4.defers, k3.defers, k2.defers, k1.defers], fun j hj => ?_⟩ hu1 hss r8 (by omega) oA ((Upd.same hbw).trans u8) c8 t8
  rw [k8.old _ (by omega), k7.old _ (by omega), k6.old _ (by omega), k5.old _ (by omega), k4.old _ (by omega), k3.old _ (by omega), k2.old _ (by omega), k1.old _ (by omega)]

/-! ### the size ahead -/
theorem runs_sliceHi {P : Program} {a : Act} {w : World} {TS U : Nat} (hT : P.underlying TS = some (.slice U)) (hi : ∃ i, P.info? U = some i) {x y : Operand} {g n c k : Nat} (hx : a.eval x = .slice (some ⟨g, 0, none⟩) n c) (hy : a.eval y = .int .i64 (k : Nat)) (hk : k ≤ c) :
    Runs P a w (.slice TS x none (some y) none) (.slice (some ⟨g, 0, none⟩) k c) w := by
  intro o h
  obtain ⟨i, hi⟩ := hi
  have e : (⟨g, 0, none⟩ : Addr).add 0 = ⟨g, 0, none⟩ := by rw [Addr.add_lit]
  simp [execOp, h, hx, hy, Instr.sliceAt, run_underlying hT, Instr.slice, Instr.sliceBounds, Instr.sliceBound, asIntOf, sizeOf, typeInfo, hi, hk, e]
theorem runs_sliceLo {P : Program} {a : Act} {TS U : Nat} (hT : P.underlying TS = some (.slice U)) (hi : ∃ i, P.info? U = some i) {x y : Operand} {A : Addr} {n c k : Nat} (hx : a.eval x = .slice (some A) n c) (hy : a.eval y = .int .i64 (k : Nat)) (hk : k ≤ n) (hn : n ≤ c) :
    ∃ q, ∀ w, Runs P a w (.slice TS x (some y) none none) (.slice q (n - k) (c - k)) w := by
  obtain ⟨i, hi⟩ := hi
  refine ⟨if c = k then some A else some (A.add (k * i.size)), fun w o h => ?_⟩
  simp [execOp, h, hx, hy, Instr.sliceAt, run_underlying hT, Instr.slice, Instr.sliceBounds, Instr.sliceBound, asIntOf, sizeOf, typeInfo, hi, hk, hn]
theorem Own.take {U base g c n : Nat} {w : World} {ds E : List UInt8} (h : Own U base w (.slice (some ⟨g, 0, none⟩) n c) (ds ++ E)) : Own U base w (.slice (some ⟨g, 0, none⟩) ds.length c) ds ∧ ds.length ≤ c ∧ n = (ds ++ E).length ∧ n ≤ c := by
  obtain ⟨h1, h2⟩ := h
  rcases h2 with ⟨e, _⟩ | ⟨g', cap, cur, e, hb, hg, hn, hm, hs, ht⟩
  · cases e
  · injection e with e1 e2 e3
    injection e1 with e1
    injection e1 with e1
    subst e1; subst e3; subst e2
    have hl : ds.length ≤ (ds ++ E).length := by simp
    refine ⟨⟨by simp, .inr ⟨_, _, cur, rfl, hb, hg, by omega, hm, hs, ?_⟩⟩, by omega, rfl, hn⟩
    have := congrArg (List.take ds.length) ht
    rw [List.take_take, Nat.mul_one, Nat.min_eq_left hl, List.map_append, List.take_left' (by simp)] at this
    rw [Nat.mul_one]
    exact this
def sizCs (G : Hn) (Uv kl m : Nat) : List Core := [⟨some m, .move (.tmp 1), none⟩, ⟨some (m + 1), .move (.tmp kl), none⟩, ⟨some (m + 2), .slice G.sl (.tmp m) none (some (.tmp (m + 1))) none, none⟩, ⟨some (m + 3), .move (.tmp 1), none⟩, ⟨some (m + 4), .move (.tmp kl), none⟩, ⟨some (m + 5), .slice G.sl (.tmp (m + 3)) (some (.tmp (m + 4))) none none, none⟩,
  ⟨some (m + 6), .call ⟨.builtin .len, #[.tmp (m + 5)], #[G.sl]⟩, none⟩, ⟨some (m + 7), .convert G.int G.u32 (.tmp (m + 6)), none⟩, ⟨some (m + 8), .call ⟨.value (.func Uv), #[.tmp (m + 2), .tmp (m + 7)], #[G.sl, G.u32]⟩, none⟩, ⟨some 1, .assign (.tmp (m + 8)), none⟩]
def sizS : List (Nat × Bool) := [(0, true), (1, true), (2, true), (3, true), (4, true), (5, true), (6, true), (7, true), (8, false), (9, false)]
theorem siz_of {P : Program} {G : Hn} {Fr : World → World → Prop} {Uv N kl m : Nat} {c : Code} (hFr : FrOk Fr) (hm : P.follows .mixedOrders = true) (hns : Region.noSelect (mkOps (sizCs G Uv kl m) (Code.ops0 c)).toArray = true) (hsch : sched (mkOps (sizCs G Uv kl m) (Code.ops0 c)).toArray sizS (Array.replicate 10 false) = true)
    (hU : UvF P G.u8 Uv Fr) (hsl : P.underlying G.sl = some (.slice G.u8)) (hi8 : ∃ i, P.info? G.u8 = some i) (hint : P.underlying G.int = some (.int .i64)) (hu32 : P.underlying G.u32 = some (.int .u32)) (hN : m + 9 ≤ N) (hklm : kl < m) (hm1 : 1 < m) (hc : c = regD (sizCs G Uv kl m) c) : SizC P G Fr N kl m c := by
  intro Q a w base ds E hsz hdf hown hne hkl hbs hlen hE h
  rw [hc]
  have hsz8 : (mkOps (sizCs G Uv kl m) (Code.ops0 c)).toArray.size = 10 := by simp [mkOps_len, sizCs]
  refine wp_sched (ops := (mkOps (sizCs G Uv kl m) (Code.ops0 c)).toArray) sizS hm hns (by rw [hsz8]; exact hsch) (by rw [hsz8]; decide) ?_
  generalize hwd : ({ w with drawn := w.drawn + 1 } : World) = wd
  have od : Only (fun _ => False) w wd := by rw [← hwd]; exact ⟨rfl, rfl, rfl, Nat.le_refl _, fun _ _ _ => rfl⟩
  have hown0 : Own G.u8 base wd (gt a 1) (ds ++ E) := hown.keep od
  have hpos : 0 < ds.length := by cases ds with | nil => exact absurd rfl hne | cons _ _ => simp
  obtain ⟨g, n, cc, e1⟩ : ∃ g n cc, gt a 1 = .slice (some ⟨g, 0, none⟩) n cc := by
    rcases hown0.2 with ⟨_, h0⟩ | ⟨g, cap, cur, e, _⟩
    · simp at h0; exact absurd h0.1 hne
    · exact ⟨g, _, cap, e⟩
  rw [e1] at hown0
  obtain ⟨ownT, hdc, hn, hnc⟩ := hown0.take
  have hnE : n - ds.length = E.length := by rw [hn, List.length_append]; omega
  refine sTake rfl (by omega) (fun w => runs_move _) fun a1 k1 => sTake (i := 1) rfl (by rw [k1.size]; omega) (fun w => runs_move _) fun a2 k2 => ?_
  have m2 : gt a2 m = .slice (some ⟨g, 0, none⟩) n cc := by rw [k2.old _ (by omega), k1.new, evT, e1]
  have m2' : gt a2 (m + 1) = .int .i64 (ds.length : Nat) := by rw [k2.new, evT, k1.old _ (by omega), hkl]
  refine sTake (i := 2) (v := .slice (some ⟨g, 0, none⟩) ds.length cc) rfl (by rw [k2.size, k1.size]; omega) (fun w => runs_sliceHi hsl hi8 m2 m2' hdc) fun a3 k3 => sTake (i := 3) rfl (by rw [k3.size, k2.size, k1.size]; omega) (fun w => runs_move _) fun a4 k4 => sTake (i := 4) rfl (by rw [k4.size, k3.size, k2.size, k1.size]; omega) (fun w => runs_move _) fun a5 k5 => ?_
  have m5 : gt a5 (m + 3) = .slice (some ⟨g, 0, none⟩) n cc := by rw [k5.old _ (by omega), k4.new, evT, k3.old _ (by omega), k2.old _ (by omega), k1.old _ (by omega), e1]
  have m5' : gt a5 (m + 4) = .int .i64 (ds.length : Nat) := by rw [k5.new, evT, k4.old _ (by omega), k3.old _ (by omega), k2.old _ (by omega), k1.old _ (by omega), hkl]
  obtain ⟨q, hq⟩ := runs_sliceLo (P := P) (a := a5) hsl hi8 (x := .tmp (m + 3)) (y := .tmp (m + 4)) m5 m5' (by rw [hn, List.length_append]; omega) hnc
  refine sTake (i := 5) rfl (by rw [k5.size, k4.size, k3.size, k2.size, k1.size]; omega) hq fun a6 k6 => sTake (i := 6) (v := .int .i64 ((n - ds.length : Nat) : Int)) rfl (by rw [k6.size, k5.size, k4.size, k3.size, k2.size, k1.size]; omega) (fun w => runs_len ⟨_, hsl⟩ k6.new) fun a7 k7 => ?_
  rw [hnE] at k7
  refine sTake (i := 7) (v := .int .u32 (E.length : Nat)) rfl (by rw [k7.size, k6.size, k5.size, k4.size, k3.size, k2.size, k1.size]; omega) (fun w => by
    have := runs_conv (P := P) (a := a7) (w := w) hint hu32 (x := .tmp (m + 6)) k7.new
    rwa [IntWalk.u32_in _ (by omega)] at this) fun a8 k8 => ?_
  have s8 : a8.tmps.size = N := by rw [k8.size, k7.size, k6.size, k5.size, k4.size, k3.size, k2.size, k1.size, hsz]
  refine sCall (i := 8) (R := fun e w' => ∃ v, e = .returned v ∧ (Own G.u8 base w' v (ds ++ uvEnc E.length) ∧ Only (fun j => base ≤ j) wd w' ∧ Fr wd w')) rfl (by omega) hU.1 (args2 (x := .slice (some ⟨g, 0, none⟩) ds.length cc) (by rw [k8.old _ (by omega), k7.old _ (by omega), k6.old _ (by omega), k5.old _ (by omega), k4.old _ (by omega), k3.new]) k8.new)
    ((hU.2 base wd _ ds E.length ownT hE (Nat.le_trans hbs od.size) (by omega)).mono fun e w' ⟨v, h, k⟩ => ⟨v, h, v, rfl, k⟩) fun v9 w9 a9 hR k9 => sOnly (i := 9) rfl (by rw [k9.size]; omega) (runs_assign _) fun a10 k10 => ?_
  obtain ⟨v, e', q1, q2, q3⟩ := hR
  obtain rfl : v9 = v := by simpa using e'
  rw [evT, k9.new] at k10
  refine h a10 w9 ⟨by rw [k10.size, k9.size, s8, hsz], by rw [k10.defers, k9.defers, k8.defers, k7.defers, k6.defers, k5.defers, k4.defers, k3.defers, k2.defers, k1.defers], fun j hj => ?_⟩ (by rw [k10.new]; exact q1) ((od.none _).trans q2) (hFr.trans (hFr.none od) q3)
  rw [k10.old _ (by omega), k9.old _ (by omega), k8.old _ (by omega), k7.old _ (by omega), k6.old _ (by omega), k5.old _ (by omega), k4.old _ (by omega), k3.old _ (by omega), k2.old _ (by omega), k1.old _ (by omega)]
end Go.Proofs.YtpefipjgcpchaaaGreatDoorR.Kf

namespace Go.Proofs.YtpefipjgcpchaaaGreatDoorR.Kf
set_option linter.unusedVariables false
set_option linter.unusedSimpArgs false
open Go Go.RowKit

def cndLen (T i TS int m : Nat) : List Core := [⟨some m, .move (.tmp 0), none⟩, ⟨some (m + 1), .nilCheck (.tmp m), none⟩, ⟨some (m + 2), .fieldAddr T (.tmp (m + 1)) i, none⟩, ⟨some (m + 3), .load TS (.tmp (m + 2)), none⟩, ⟨some (m + 4), .call ⟨.builtin .len, #[.tmp (m + 3)], #[TS]⟩, none⟩, ⟨some (m + 5), .binOp .gtr int (.tmp (m + 4)) (.const (.int .i64 0)) int, none⟩]
theorem cnd_len {P : Program} {T i o TS int m N : Nat} {c : Code} (hf : FieldAt P T i o TS 1) (h1 : One P TS) (hT : ∃ e, P.underlying TS = some (.slice e)) (hm : 0 < m) (hN : m + 6 ≤ N) (hc : c = reg (cndLen T i TS int m) c) : CndC P N o m (m + 6) (m + 5) c := by
  intro Q a w b p n cc ver hsz hdf h0 hver hv0 hcell hp h
  rw [hc]
  refine wp_reg (stV (by omega) (runs_move _) fun a1 k1 => stV (by rw [k1.size]; omega) (runs_nilCheck (p := ⟨b, 0, none⟩) (by rw [evT, k1.new, evT, h0])) fun a2 k2 => stV (v := .pointer (some ⟨b, o, none⟩)) (by rw [k2.size, k1.size]; omega) (by
    have := runs_fieldAddr (P := P) (a := a2) (w := w) hf (p := ⟨b, 0, none⟩) (x := .tmp (m + 1)) k2.new
    rwa [Addr.add_lit, Nat.zero_add] at this) fun a3 k3 => stV (by rw [k3.size, k2.size, k1.size]; omega) (runs_load h1 k3.new hcell) fun a4 k4 => stV (by rw [k4.size, k3.size, k2.size, k1.size]; omega) (runs_len hT k4.new) fun a5 k5 =>
    stV (by rw [k5.size, k4.size, k3.size, k2.size, k1.size]; omega) (runs_cmp .gtr _ (.inr (.inr (.inl ⟨rfl, rfl⟩))) (k := .i64) (p := (n : Int)) (q := 0) k5.new rfl) fun a6 k6 => stE ?_)
  refine h a6 ⟨by rw [k6.size, k5.size, k4.size, k3.size, k2.size, k1.size], by rw [k6.defers, k5.defers, k4.defers, k3.defers, k2.defers, k1.defers], fun j hj => by rw [k6.old j (by omega), k5.old j (by omega), k4.old j (by omega), k3.old j (by omega), k2.old j (by omega), k1.old j (by omega)]⟩ ?_
  rw [k6.new]
  congr 1
  simp

/-! ### guarded operations -/
def wpI (P : Program) (Q : Exit → Act → World → Prop) (cs : List Core) (os : List Oper) (i : Nat) (a : Act) (w : World) : Prop := wpList P (mkOps cs os).toArray Q ((mkOps cs os).drop i) a w
section
variable {P : Program} {Q : Exit → Act → World → Prop} {cs : List Core} {os : List Oper} {a : Act} {w : World}
theorem mkOps_drop {i : Nat} {c : Core} (hc : cs[i]? = some c) : ∃ o, (mkOps cs os)[i]? = some (mkOp c o) ∧ (mkOps cs os).drop i = mkOp c o :: (mkOps cs os).drop (i + 1) := by
  obtain ⟨o, ho⟩ := mkOps_get cs os i c hc
  obtain ⟨hl, e⟩ := List.getElem?_eq_some_iff.1 ho
  exact ⟨o, ho, by rw [List.drop_eq_getElem_cons hl, e]⟩
/-- The guard's word. -/
theorem yielded_at {gi dg : Nat} {cg : Core} {b : Bool} (hg : cs[gi]? = some cg) (hd : cg.dst = some dg) (hs : dg < a.tmps.size) (hv : gt a dg = .bool b) : yielded (mkOps cs os).toArray a.tmps gi = some b := by
  obtain ⟨o, ho⟩ := mkOps_get cs os gi cg hg
  have ho' : (mkOps cs os).toArray[gi]? = some (mkOp cg o) := by simpa using ho
  unfold yielded
  rw [ho']
  have h2 : (mkOp cg o).dst = some dg := hd
  simp only [Option.bind_some, h2]
  have h3 : a.tmps[dg]? = some (.bool b) := by
    rw [Array.getElem?_eq_getElem hs]
    have : gt a dg = a.tmps[dg] := by unfold gt; rw [Array.getD_eq_getD_getElem?, Array.getElem?_eq_getElem hs]; rfl
    rw [← this, hv]
  rw [h3]
theorem iV {i d : Nat} {op : Op} {v : Value} {w' : World} (hc : cs[i]? = some ⟨some d, op, none⟩) (hd : d < a.tmps.size) (hr : Runs P a w op v w') (h : ∀ a', Nx a d v a' → wpI P Q cs os (i + 1) a' w') : wpI P Q cs os i a w := by
  obtain ⟨o, ho, e⟩ := mkOps_drop (os := os) hc
  unfold wpI
  rw [e]
  refine wpList_plain rfl fun K hK => ?_
  show Oper.upon P _ a K Q _
  rw [hr (mkOp ⟨some d, op, none⟩ o) rfl]
  exact hK _ _ (h _ (Nx.mk' hd))
/-- A guarded one that is run. -/
theorem iG {i d gi dg : Nat} {b : Bool} {op : Op} {cg : Core} {v : Value} {w' : World} (hc : cs[i]? = some ⟨some d, op, some (gi, b)⟩) (hg : cs[gi]? = some cg) (hgd : cg.dst = some dg) (hgs : dg < a.tmps.size) (hgv : gt a dg = .bool b) (hd : d < a.tmps.size) (hr : Runs P a w op v w') (h : ∀ a', Nx a d v a' → wpI P Q cs os (i + 1) a' w') : wpI P Q cs os i a w := by
  obtain ⟨o, ho, e⟩ := mkOps_drop (os := os) hc
  unfold wpI
  rw [e]
  refine wpList_step fun K hK => ?_
  have hy := yielded_at (os := os) hg hgd hgs hgv
  have hw : Region.wanted (mkOp ⟨some d, op, some (gi, b)⟩ o) (yielded (mkOps cs os).toArray a.tmps) = true := by
    show Region.wanted _ _ = true
    unfold Region.wanted
    simp [mkOp, hy]
  rw [if_pos hw]
  show Oper.upon P _ a K Q _
  rw [hr (mkOp ⟨some d, op, some (gi, b)⟩ o) rfl]
  exact hK _ _ (h _ (Nx.mk' hd))
/-- A guarded one that is left out. -/
theorem iN {i d gi dg : Nat} {b : Bool} {op : Op} {cg : Core} (hc : cs[i]? = some ⟨some d, op, some (gi, b)⟩) (hg : cs[gi]? = some cg) (hgd : cg.dst = some dg) (hgs : dg < a.tmps.size) (hgv : gt a dg = .bool (!b)) (hd : d < a.tmps.size) (h : ∀ a', Nx a d undef a' → wpI P Q cs os (i + 1) a' w) : wpI P Q cs os i a w := by
  obtain ⟨o, ho, e⟩ := mkOps_drop (os := os) hc
  unfold wpI
  rw [e]
  refine wpList_step fun K hK => ?_
  have hy := yielded_at (os := os) hg hgd hgs hgv
  have hw : ¬ Region.wanted (mkOp ⟨some d, op, some (gi, b)⟩ o) (yielded (mkOps cs os).toArray a.tmps) = true := by
    unfold Region.wanted
    simp [mkOp, hy]
  rw [if_neg hw]
  exact hK _ _ (h _ (Nx.mk' hd))
theorem iE {i : Nat} (hi : cs.length ≤ i) (h : Q .normal a w) : wpI P Q cs os i a w := by
  unfold wpI
  rw [List.drop_of_length_le (by rw [mkOps_len]; exact hi)]
  exact wpList_nil h
theorem wp_regI {c0 : Code} (h : wpI P Q cs (Code.ops0 c0) 0 a w) : (reg cs c0).wp P Q a w := wp_region_list (by simpa [wpI] using h)
theorem runs_pickG {x y z : Operand} {b : Bool} (hx : a.eval x = .bool b) : Runs P a w (.pick x y z) (if b then a.eval y else a.eval z) w := by
  intro o h
  simp [execOp, h, hx, asBool]
theorem runs_notNil {TS t2 : Nat} (hT : ∃ e, P.underlying TS = some (.slice e)) {x : Operand} {p : Option Addr} {n c : Nat} (hx : a.eval x = .slice p n c) : Runs P a w (.binOp .neq TS x (.const (.slice none 0 0)) t2) (.bool p.isSome) w := by
  intro o h
  obtain ⟨e, hT⟩ := hT
  have e0 : a.eval (.const (.slice none 0 0)) = .slice none 0 0 := rfl
  simp [execOp, h, hx, e0, eqGuard_at_slice, run_neq_slice_nil_any w TS e p n c 0 0 hT]
end

def cndVer (T i TS int i16 m : Nat) : List Core := [⟨some m, .move (.tmp 5), none⟩, ⟨some (m + 1), .binOp .lss i16 (.tmp m) (.const (.int .i16 0)) i16, none⟩, ⟨some (m + 2), .move (.tmp (m + 1)), none⟩,
  ⟨some (m + 3), .move (.tmp 0), some (2, true)⟩, ⟨some (m + 4), .nilCheck (.tmp (m + 3)), some (2, true)⟩, ⟨some (m + 5), .fieldAddr T (.tmp (m + 4)) i, some (2, true)⟩, ⟨some (m + 6), .load TS (.tmp (m + 5)), some (2, true)⟩, ⟨some (m + 7), .call ⟨.builtin .len, #[.tmp (m + 6)], #[TS]⟩, some (2, true)⟩, ⟨some (m + 8), .binOp .gtr int (.tmp (m + 7)) (.const (.int .i64 0)) int, some (2, true)⟩,
  ⟨some (m + 9), .pick (.tmp (m + 2)) (.tmp (m + 8)) (.const (.bool false)), none⟩, ⟨some (m + 10), .move (.tmp (m + 9)), none⟩,
  ⟨some (m + 11), .move (.tmp 5), some (10, false)⟩, ⟨some (m + 12), .binOp .geq i16 (.tmp (m + 11)) (.const (.int .i16 0)) i16, some (10, false)⟩, ⟨some (m + 13), .move (.tmp (m + 12)), some (10, false)⟩,
  ⟨some (m + 14), .move (.tmp 0), some (13, true)⟩, ⟨some (m + 15), .nilCheck (.tmp (m + 14)), some (13, true)⟩, ⟨some (m + 16), .fieldAddr T (.tmp (m + 15)) i, some (13, true)⟩, ⟨some (m + 17), .load TS (.tmp (m + 16)), some (13, true)⟩, ⟨some (m + 18), .binOp .neq TS (.tmp (m + 17)) (.const (.slice none 0 0)) TS, some (13, true)⟩,
  ⟨some (m + 19), .pick (.tmp (m + 13)) (.tmp (m + 18)) (.const (.bool false)), some (10, false)⟩, ⟨some (m + 20), .pick (.tmp (m + 10)) (.const (.bool true)) (.tmp (m + 19)), none⟩]
set_option maxHeartbeats 800000 in
theorem cnd_ver {P : Program} {T i o TS int i16 m N : Nat} {c : Code} (hf : FieldAt P T i o TS 1) (h1 : One P TS) (hT : ∃ e, P.underlying TS = some (.slice e)) (hm : 5 < m) (hN : m + 21 ≤ N) (hc : c = reg (cndVer T i TS int i16 m) c) : CndC P N o m (m + 21) (m + 20) c := by
  intro Q a w b p n cc ver hsz hdf h0 hver hv0 hcell hp h
  rw [hc]
  have hlt : decide (ver < 0) = false := by simpa using hv0
  have hge : decide (ver ≥ 0) = true := by simpa using hv0
  refine wp_regI ?_
  refine iV (i := 0) rfl (by omega) (runs_move _) fun a1 k1 => iV (i := 1) (v := .bool false) rfl (by rw [k1.size]; omega) (by rw [← hlt]; exact runs_cmp .lss _ (.inl ⟨rfl, rfl⟩) (k := .i16) (p := ver) (q := 0) (by rw [evT, k1.new, evT, hver]) rfl) fun a2 k2 => iV (i := 2) rfl (by rw [k2.size, k1.size]; omega) (runs_move _) fun a3 k3 => ?_
  rw [evT, k2.new] at k3
  have z3 : a3.tmps.size = N := by rw [k3.size, k2.size, k1.size, hsz]
  have g3 : gt a3 (m + 2) = .bool false := k3.new
  refine iN (i := 3) (gi := 2) (dg := m + 2) rfl rfl rfl (by omega) g3 (by omega) fun a4 k4 => iN (i := 4) (gi := 2) (dg := m + 2) rfl rfl rfl (by rw [k4.size]; omega) (by rw [k4.old _ (by omega)]; exact g3) (by rw [k4.size]; omega) fun a5 k5 => iN (i := 5) (gi := 2) (dg := m + 2) rfl rfl rfl (by rw [k5.size, k4.size]; omega) (by rw [k5.old _ (by omega), k4.old _ (by omega)]; exact g3) (by rw [k5.size, k4.size]; omega) fun a6 k6 =>
    iN (i := 6) (gi := 2) (dg := m + 2) rfl rfl rfl (by rw [k6.size, k5.size, k4.size]; omega) (by rw [k6.old _ (by omega), k5.old _ (by omega), k4.old _ (by omega)]; exact g3) (by rw [k6.size, k5.size, k4.size]; omega) fun a7 k7 => iN (i := 7) (gi := 2) (dg := m + 2) rfl rfl rfl (by rw [k7.size, k6.size, k5.size, k4.size]; omega) (by rw [k7.old _ (by omega), k6.old _ (by omega), k5.old _ (by omega), k4.old _ (by omega)]; exact g3) (by rw [k7.size, k6.size, k5.size, k4.size]; omega) fun a8 k8 =>
    iN (i := 8) (gi := 2) (dg := m + 2) rfl rfl rfl (by rw [k8.size, k7.size, k6.size, k5.size, k4.size]; omega) (by rw [k8.old _ (by omega), k7.old _ (by omega), k6.old _ (by omega), k5.old _ (by omega), k4.old _ (by omega)]; exact g3) (by rw [k8.size, k7.size, k6.size, k5.size, k4.size]; omega) fun a9 k9 => ?_
  have z9 : a9.tmps.size = N := by rw [k9.size, k8.size, k7.size, k6.size, k5.size, k4.size, z3]
  have f9 : ∀ j, j < m + 3 ∨ m + 9 ≤ j → gt a9 j = gt a3 j := fun j hj => by rw [k9.old _ (by omega), k8.old _ (by omega), k7.old _ (by omega), k6.old _ (by omega), k5.old _ (by omega), k4.old _ (by omega)]
  have d9 : a9.defers = a.defers := by rw [k9.defers, k8.defers, k7.defers, k6.defers, k5.defers, k4.defers, k3.defers, k2.defers, k1.defers]
  have f9a : ∀ j, j < m ∨ m + 21 ≤ j → gt a9 j = gt a j := fun j hj => by rw [f9 j (by omega), k3.old _ (by omega), k2.old _ (by omega), k1.old _ (by omega)]
  have g9 : gt a9 (m + 2) = .bool false := (f9 _ (by omega)).trans g3
  clear k4 k5 k6 k7 k8 k9 k1 k2 k3
  refine iV (i := 9) (v := .bool false) rfl (by omega) (by have := runs_pickG (P := P) (a := a9) (w := w) (x := .tmp (m + 2)) (y := .tmp (m + 8)) (z := .const (.bool false)) g9; simpa [evC] using this) fun b1 k1 => iV (i := 10) (v := .bool false) rfl (by rw [k1.size]; omega) (by have := runs_move (P := P) (a := b1) (w := w) (.tmp (m + 9)); rwa [evT, k1.new] at this) fun b2 k2 => ?_
  have g10 : gt b2 (m + 10) = .bool false := k2.new
  refine iG (i := 11) (gi := 10) (dg := m + 10) (v := .int .i16 ver) rfl rfl rfl (by rw [k2.size, k1.size]; omega) g10 (by rw [k2.size, k1.size]; omega) (by have := runs_move (P := P) (a := b2) (w := w) (.tmp 5); rwa [evT, k2.old _ (by omega), k1.old _ (by omega), f9a 5 (.inl (by omega)), hver] at this) fun b3 k3 =>
    iG (i := 12) (gi := 10) (dg := m + 10) (v := .bool true) rfl rfl rfl (by rw [k3.size, k2.size, k1.size]; omega) (by rw [k3.old _ (by omega)]; exact g10) (by rw [k3.size, k2.size, k1.size]; omega) (by rw [← hge]; exact runs_cmp .geq _ (.inr (.inl ⟨rfl, rfl⟩)) (k := .i16) (p := ver) (q := 0) k3.new rfl) fun b4 k4 =>
    iG (i := 13) (gi := 10) (dg := m + 10) (v := .bool true) rfl rfl rfl (by rw [k4.size, k3.size, k2.size, k1.size]; omega) (by rw [k4.old _ (by omega), k3.old _ (by omega)]; exact g10) (by rw [k4.size, k3.size, k2.size, k1.size]; omega) (by have := runs_move (P := P) (a := b4) (w := w) (.tmp (m + 12)); rwa [evT, k4.new] at this) fun b5 k5 => ?_
  have z5 : b5.tmps.size = N := by rw [k5.size, k4.size, k3.size, k2.size, k1.size, z9]
  have g13 : gt b5 (m + 13) = .bool true := k5.new
  have g10' : gt b5 (m + 10) = .bool false := by rw [k5.old _ (by omega), k4.old _ (by omega), k3.old _ (by omega)]; exact g10
  have e0 : gt b5 0 = .pointer (some ⟨b, 0, none⟩) := by rw [k5.old _ (by omega), k4.old _ (by omega), k3.old _ (by omega), k2.old _ (by omega), k1.old _ (by omega), f9a 0 (.inl (by omega)), h0]
  have d5 : b5.defers = a.defers := by rw [k5.defers, k4.defers, k3.defers, k2.defers, k1.defers, d9]
  have f5 : ∀ j, j < m ∨ m + 21 ≤ j → gt b5 j = gt a j := fun j hj => by rw [k5.old _ (by omega), k4.old _ (by omega), k3.old _ (by omega), k2.old _ (by omega), k1.old _ (by omega), f9a j hj]
  clear k1 k2 k3 k4 k5
  refine iG (i := 14) (gi := 13) (dg := m + 13) (v := .pointer (some ⟨b, 0, none⟩)) rfl rfl rfl (by omega) g13 (by omega) (by have := runs_move (P := P) (a := b5) (w := w) (.tmp 0); rwa [evT, e0] at this) fun b6 k6 =>
    iG (i := 15) (gi := 13) (dg := m + 13) rfl rfl rfl (by rw [k6.size]; omega) (by rw [k6.old _ (by omega)]; exact g13) (by rw [k6.size]; omega) (runs_nilCheck (p := ⟨b, 0, none⟩) k6.new) fun b7 k7 =>
    iG (i := 16) (gi := 13) (dg := m + 13) (v := .pointer (some ⟨b, o, none⟩)) rfl rfl rfl (by rw [k7.size, k6.size]; omega) (by rw [k7.old _ (by omega), k6.old _ (by omega)]; exact g13) (by rw [k7.size, k6.size]; omega) (by
      have := runs_fieldAddr (P := P) (a := b7) (w := w) hf (p := ⟨b, 0, none⟩) (x := .tmp (m + 15)) k7.new
      rwa [Addr.add_lit, Nat.zero_add] at this) fun b8 k8 =>
    iG (i := 17) (gi := 13) (dg := m + 13) rfl rfl rfl (by rw [k8.size, k7.size, k6.size]; omega) (by rw [k8.old _ (by omega), k7.old _ (by omega), k6.old _ (by omega)]; exact g13) (by rw [k8.size, k7.size, k6.size]; omega) (runs_load h1 k8.new hcell) fun b9 k9 =>
    iG (i := 18) (gi := 13) (dg := m + 13) rfl rfl rfl (by rw [k9.size, k8.size, k7.size, k6.size]; omega) (by rw [k9.old _ (by omega), k8.old _ (by omega), k7.old _ (by omega), k6.old _ (by omega)]; exact g13) (by rw [k9.size, k8.size, k7.size, k6.size]; omega) (runs_notNil hT k9.new) fun c1 k10 =>
    iG (i := 19) (gi := 10) (dg := m + 10) (v := .bool p.isSome) rfl rfl rfl (by rw [k10.size, k9.size, k8.size, k7.size, k6.size]; omega) (by rw [k10.old _ (by omega), k9.old _ (by omega), k8.old _ (by omega), k7.old _ (by omega), k6.old _ (by omega)]; exact g10') (by rw [k10.size, k9.size, k8.size, k7.size, k6.size]; omega) (by
      have := runs_pickG (P := P) (a := c1) (w := w) (x := .tmp (m + 13)) (y := .tmp (m + 18)) (z := .const (.bool false)) (b := true) (by rw [evT, k10.old _ (by omega), k9.old _ (by omega), k8.old _ (by omega), k7.old _ (by omega), k6.old _ (by omega)]; exact g13)
      rwa [if_pos rfl, evT, k10.new] at this) fun c2 k11 =>
    iV (i := 20) (v := .bool p.isSome) rfl (by rw [k11.size, k10.size, k9.size, k8.size, k7.size, k6.size]; omega) (by
      have := runs_pickG (P := P) (a := c2) (w := w) (x := .tmp (m + 10)) (y := .const (.bool true)) (z := .tmp (m + 19)) (b := false) (by rw [evT, k11.old _ (by omega), k10.old _ (by omega), k9.old _ (by omega), k8.old _ (by omega), k7.old _ (by omega), k6.old _ (by omega)]; exact g10')
      rwa [if_neg (by decide), evT, k11.new] at this) fun c3 k12 => iE (by simp [cndVer]) ?_
  refine h c3 ⟨by rw [k12.size, k11.size, k10.size, k9.size, k8.size, k7.size, k6.size, z5, hsz], by rw [k12.defers, k11.defers, k10.defers, k9.defers, k8.defers, k7.defers, k6.defers, d5], fun j hj => ?_⟩ (by rw [k12.new, hp])
  rw [k12.old _ (by omega), k11.old _ (by omega), k10.old _ (by omega), k9.old _ (by omega), k8.old _ (by omega), k7.old _ (by omega), k6.old _ (by omega)]
  exact f5 j (by omega)

/-! ### a number behind others -/
/-- ks is the type of slices of numbers u32. -/
def NumT (P : Program) (ks U32 : Nat) : Prop := P.underlying ks = some (.slice U32) ∧ ∃ i, P.info? U32 = some i ∧ i.zero = some (.int .u32 0) ∧ i.size = 1 ∧ i.bytes = 4
theorem runs_buildK {P : Program} {a : Act} {w : World} {ks U : Nat} (hT : NumT P ks U) (n : Int) : Runs P a w (.buildSlice ks 1 #[(0, .const (.int .u32 n))]) (.slice (some ⟨w.heap.size, 0, none⟩) 1 1) (w.alloc (.cells #[.int .u32 n] U)) := by
  intro o h
  obtain ⟨h1, i, h2, h3, h4, h5⟩ := hT
  have e0 : a.eval (.const (.int .u32 n)) = .int .u32 n := rfl
  simp [execOp, h, Instr.buildSlice, run_underlying h1, sizeOf, typeInfo, h2, h3, h4, zeroValue, Instr.fill, newRow, e0, Value.cells, Array.range_succ, Array.range_zero']
def apkCs (ks k m : Nat) (key : Int) : List Core := [⟨some m, .move (.tmp k), none⟩, ⟨some (m + 1), .buildSlice ks 1 #[(0, .const (.int .u32 key))], none⟩, ⟨some (m + 2), .call ⟨.builtin .append, #[.tmp m, .tmp (m + 1)], #[ks, ks]⟩, none⟩, ⟨some k, .assign (.tmp (m + 2)), none⟩]
theorem apk_of {P : Program} {U32 ks N k m key : Nat} {c : Code} (hT : NumT P ks U32) (hkm : k < m) (hN : m + 3 ≤ N) (hc : c = reg (apkCs ks k m (key : Nat)) c) : ApKC P U32 N k m key c := by
  intro Q a w base l hsz hdf hown hl hbase h
  rw [hc]
  refine wp_reg (stV (by omega) (runs_move _) fun a1 k1 => stV (by rw [k1.size]; omega) (runs_buildK hT _) fun a2 k2 => ?_)
  obtain ⟨t1, i, t2, t3, t4, t5⟩ := hT
  rw [evT] at k1
  have e2b : gt a2 m = gt a k := by rw [k2.old _ (by omega), k1.new]
  intro all pre os hall
  obtain ⟨o, os', e⟩ := mkOps_cons ⟨some (m + 2), .call ⟨.builtin .append, #[.tmp m, .tmp (m + 1)], #[ks, ks]⟩, none⟩ [⟨some k, .assign (.tmp (m + 2)), none⟩] os
  rw [e] at hall ⊢
  refine wpList_append_own (w.alloc (.cells #[.int .u32 (key : Nat)] U32)) rfl (.tmp m) (.tmp (m + 1)) ks rfl base U32 i (.int .u32 0) 1 4 t1 t2 t3 t4 t5 rfl (by decide) (gt a k) l.length (l.map keyV) e2b (World.ownsRow.alloc hown _) ⟨w.heap.size, 0, none⟩ 1 1 [keyV key] k2.new rfl (fun j u hj => ?_) (fun u hu => ?_) (by unfold maxLen; omega) (by omega) (by simp; omega) ?_
  · exact cell_one_new w (keyV key) U32 j u hj
  · simp at hu; subst hu; rfl
  intro v' w' hown' hgrow _
  have z2 : m + 2 < a2.tmps.size := by rw [k2.size, k1.size]; omega
  have k3 : Nx a2 (m + 2) v' (a2.put (some (m + 2)) v') := Nx.mk' z2
  show wpList P all Q _ (a2.put (some (m + 2)) v') w'
  generalize a2.put (some (m + 2)) v' = a3 at k3
  refine (stV (by rw [k3.size, k2.size, k1.size]; omega) (runs_assign _) fun a4 k4 => stE ?_ : wpC P Q [⟨some k, .assign (.tmp (m + 2)), none⟩] a3 w') all (pre ++ [mkOp ⟨some (m + 2), .call ⟨.builtin .append, #[.tmp m, .tmp (m + 1)], #[ks, ks]⟩, none⟩ o]) os' (by simpa using hall)
  rw [evT, k3.new] at k4
  refine h a4 w' ⟨by rw [k4.size, k3.size, k2.size, k1.size], by rw [k4.defers, k3.defers, k2.defers, k1.defers], fun j hj => by rw [k4.old j (by omega), k3.old j (by omega), k2.old j (by omega), k1.old j (by omega)]⟩ ?_ ?_
  · rw [k4.new]
    simpa using hown'
  · have h1 : Only (fun j => (gt a k).ownBlock = some j) w (w.alloc (.cells #[.int .u32 (key : Nat)] U32)) := (Only.refl _ w).of_below ((Below.refl _ _).alloc (Nat.le_refl _) _)
    exact h1.trans ⟨hgrow.os, hgrow.tape, hgrow.output, hgrow.size, fun j hj hb => hgrow.block j hj fun e => hb e.symm⟩
end Go.Proofs.YtpefipjgcpchaaaGreatDoorR.Kf

namespace Go.Proofs.YtpefipjgcpchaaaGreatDoorR.Kf
set_option linter.unusedVariables false
set_option linter.unusedSimpArgs false
open Go Go.RowKit

/-- The reading's list and the writing's one. -/
structure PairOk (tg : TG) (ta : TA) : Prop where
  key : tg.key = ta.key
  o : tg.o = ta.o
  zs : tg.zs.length = ta.zs.length
  c : tg.l.c true = true
  m : ∀ ver, tg.e.m ver true = ta.e.m ver true
/-- What a list's things are written as. -/
def encL (ver : Int) (flex : Bool) (g : TG) (vs : List Val) : List UInt8 := enc (g.m ver flex).w (.list (some vs))
def knV (ver : Int) (flex : Bool) (gv : List ((TG × TA) × Option (List Val))) : List (Nat × List UInt8) := gv.filterMap fun x => x.2.map fun vs => (x.1.1.key, encL ver flex x.1.1 vs)
def gEV (ver : Int) (flex : Bool) (gv : List ((TG × TA) × Option (List Val))) : List (TA × Option (List UInt8)) := gv.map fun x => (x.1.2, x.2.map fun vs => encL ver flex x.1.1 vs)
theorem knT_gEV (ver : Int) (flex : Bool) : ∀ gv : List ((TG × TA) × Option (List Val)), (∀ x ∈ gv, PairOk x.1.1 x.1.2) → knT (gEV ver flex gv) = knV ver flex gv := by
  intro gv
  induction gv with
  | nil => intro _; rfl
  | cons x gv ih =>
    intro h
    obtain ⟨⟨tg, ta⟩, o⟩ := x
    have h1 := h _ (List.mem_cons_self ..)
    have h2 := ih fun y hy => h y (List.mem_cons_of_mem _ hy)
    have h1k : tg.key = ta.key := h1.key
    unfold knT knV gEV at *
    cases o with
    | none => simpa using h2
    | some vs => simp [h1k]; simpa using h2
theorem knV_mem {ver : Int} {flex : Bool} {gv : List ((TG × TA) × Option (List Val))} {k : Nat} {s : List UInt8} (h : (k, s) ∈ knV ver flex gv) : ∃ g ta vs, ((g, ta), some vs) ∈ gv ∧ g.key = k ∧ s = encL ver flex g vs := by
  obtain ⟨⟨⟨g, ta⟩, o⟩, h1, h2⟩ := List.mem_filterMap.1 h
  cases o with
  | none => cases h2
  | some vs =>
    simp at h2
    exact ⟨g, ta, vs, h1, h2.1, h2.2.symm⟩

/-- What a message's fields and tags say. -/
structure GhT (ver : Int) (flex : Bool) (gs : List TG) (gv : List ((TG × TA) × Option (List Val))) (un : List (Nat × List UInt8)) : Prop where
  val : ∀ g ta vs, ((g, ta), some vs) ∈ gv → 0 < vs.length ∧ wf (g.m ver flex).w (.list (some vs)) ∧ (encL ver flex g vs).length < 4294967296
  ok : flex = true → ∀ g ∈ gs, (g.m ver flex).w.ok = true
  up : upTags 0 (knV ver flex gv ++ un)
  len : un.length ≤ 4294900000
  ord : ∀ g ∈ gs, ∀ x ∈ un, g.key < x.1
  fl : flex = false → knV ver flex gv ++ un = []

theorem upTags_suf : ∀ (ds rr : List (Nat × List UInt8)) (b : Nat), upTags b (ds ++ rr) → ∃ c, b ≤ c ∧ upTags c rr := by
  intro ds
  induction ds with
  | nil => intro rr b h; exact ⟨b, Nat.le_refl _, h⟩
  | cons x ds ih =>
    obtain ⟨k, v⟩ := x
    intro rr b h
    obtain ⟨c, h1, h2⟩ := ih rr _ h.2.2.2
    exact ⟨c, by have := h.1; omega, h2⟩

section
variable {ver : Int} {flex : Bool} {gs : List TG} {gv : List ((TG × TA) × Option (List Val))} {un : List (Nat × List UInt8)} {oT lo NB : Nat}

theorem GhT.isK (h : GhT ver flex gs gv un) (hgv : gv.map (fun x => x.1.1) = gs) : (∀ x ∈ knV ver flex gv, Kf.isK gs x.1 = true) ∧ ∀ x ∈ un, Kf.isK gs x.1 = false := by
  refine ⟨fun x hx => ?_, fun x hx => ?_⟩
  · obtain ⟨k, s⟩ := x
    obtain ⟨g, ta, vs, h1, h2, _⟩ := knV_mem hx
    unfold Kf.isK
    simp only [List.any_eq_true, beq_iff_eq]
    exact ⟨g, by rw [← hgv]; exact List.mem_map.2 ⟨_, h1, rfl⟩, h2⟩
  · unfold Kf.isK
    rw [Bool.eq_false_iff]
    intro hk
    simp only [List.any_eq_true, beq_iff_eq] at hk
    obtain ⟨g, hg, he⟩ := hk
    have := h.ord g hg x hx
    omega
theorem GhT.unk (h : GhT ver flex gs gv un) (hgv : gv.map (fun x => x.1.1) = gs) : unkT gs (knV ver flex gv ++ un) = un := by
  obtain ⟨h1, h2⟩ := h.isK hgv
  unfold unkT
  rw [List.filter_append]
  have e1 : (knV ver flex gv).filter (fun x => !Kf.isK gs x.1) = [] := by
    rw [List.filter_eq_nil_iff]
    intro x hx
    simp [h1 x hx]
  have e2 : un.filter (fun x => !Kf.isK gs x.1) = un := by
    rw [List.filter_eq_self]
    intro x hx
    simp [h2 x hx]
  rw [e1, e2, List.nil_append]
theorem GhT.one (h : GhT ver flex gs gv un) (hgv : gv.map (fun x => x.1.1) = gs) (hG : GsOk gs oT lo NB) {g : TG} (hg : g ∈ gs) {s : List UInt8} (hs : (g.key, s) ∈ knV ver flex gv ++ un) : ∃ ta vs, ((g, ta), some vs) ∈ gv ∧ s = encL ver flex g vs ∧ dec (g.m ver flex).w s = some (.list (some vs), []) := by
  rcases List.mem_append.1 hs with h1 | h1
  · obtain ⟨g', ta, vs, k1, k2, rfl⟩ := knV_mem h1
    have hg' : g' ∈ gs := by rw [← hgv]; exact List.mem_map.2 ⟨_, k1, rfl⟩
    obtain rfl := hG.uni g' hg' g hg k2
    refine ⟨ta, vs, k1, rfl, ?_⟩
    have hfx : flex = true := by
      cases flex
      · have := h.fl rfl; rw [this] at hs; cases hs
      · rfl
    have := dec_enc (g'.m ver flex).w (.list (some vs)) [] (h.ok hfx g' hg) (h.val g' ta vs k1).2.1
    simpa [encL] using this
  · have := h.ord g hg _ h1
    simp at this
theorem GhT.rsd (h : GhT ver flex gs gv un) (hgv : gv.map (fun x => x.1.1) = gs) (hG : GsOk gs oT lo NB) (hgl : gv.length ≤ 900) : RsD ver flex gs (knV ver flex gv ++ un) := by
  refine ⟨h.up, ?_, fun g hg x hx hk => ?_, fun g hg s hs => ?_⟩
  · have h1 : (knV ver flex gv).length ≤ gv.length := List.length_filterMap_le _ _
    have := h.len
    rw [List.length_append]; omega
  · rcases List.mem_append.1 hx with h1 | h1
    · rw [(h.isK hgv).1 x h1] at hk; cases hk
    · exact h.ord g hg x h1
  · obtain ⟨ta, vs, _, _, h3⟩ := h.one hgv hG hg hs
    exact ⟨_, h3⟩
end

theorem pair_uq {α : Type} {f : α → Nat} : ∀ {l : List α}, (l.Pairwise fun x y => f x ≠ f y) → ∀ x ∈ l, ∀ y ∈ l, f x = f y → x = y := by
  intro l
  induction l with
  | nil => intro _ x hx; cases hx
  | cons a l ih =>
    intro h x hx y hy hxy
    rw [List.pairwise_cons] at h
    rcases List.mem_cons.1 hx with e1 | h1
    · rcases List.mem_cons.1 hy with e2 | h2
      · rw [e1, e2]
      · rw [e1] at hxy; exact absurd hxy (h.1 y h2)
    · rcases List.mem_cons.1 hy with e2 | h2
      · rw [e2] at hxy; exact absurd hxy.symm (h.1 x h1)
      · exact ih h.2 x h1 y h2 hxy
/-- What has been read can be written. -/
theorem tval_of {P : Program} {E : Hn} {K : TypeId} {D b oT B0 N M0 lo NB : Nat} {ver : Int} {gs : List TG} {gv : List ((TG × TA) × Option (List Val))} {un : List (Nat × List UInt8)} {w : World} (h : GhT ver true gs gv un) (hgv : gv.map (fun x => x.1.1) = gs) (hp : ∀ x ∈ gv, PairOk x.1.1 x.1.2) (hG : GsOk gs oT lo NB)
    (hk2 : ∀ x ∈ gv, ∀ y ∈ gv, x.1.1.key = y.1.1.key → x = y) (hT : TgsQ P K D ver true gs b oT B0 (knV ver true gv ++ un) w) : ∀ y ∈ gEV ver true gv, TVal (axOf P E D w.heap.size ver true N M0) b w y := by
  obtain ⟨B, tv, n, h1, h2, hF, _⟩ := hT
  intro y hy
  obtain ⟨⟨⟨g, ta⟩, o⟩, hx, rfl⟩ := List.mem_map.1 hy
  have hP := hp _ hx
  have hg : g ∈ gs := by rw [← hgv]; exact List.mem_map.2 ⟨_, hx, rfl⟩
  have hPo : g.o = ta.o := hP.o
  cases o with
  | none =>
    show w.cell? ⟨b, ta.o, none⟩ = some (.slice none 0 0)
    rw [← hPo]
    refine (hF g hg).1 fun s hs => ?_
    obtain ⟨ta', vs', k1, _, _⟩ := h.one hgv hG hg hs
    have := hk2 _ hx _ k1 rfl
    simp at this
  | some vs =>
    have hmem : (g.key, encL ver true g vs) ∈ knV ver true gv ++ un := List.mem_append.2 (.inl (List.mem_filterMap.2 ⟨_, hx, rfl⟩))
    obtain ⟨x, lo', hi', d1, d2, d3, d4, d5⟩ := (hF g hg).2 _ hmem
    obtain ⟨v1, v2, v3⟩ := h.val g ta vs hx
    have hd := dec_enc (g.m ver true).w (.list (some vs)) [] (h.ok rfl g hg) v2
    have hd' : dec (g.m ver true).w (encL ver true g vs) = some (.list (some vs), []) := by simpa [encL] using hd
    rw [hd'] at d1
    simp at d1
    subst d1
    have hPm : g.e.m ver true = ta.e.m ver true := hP.m ver
    have hPz : g.zs.length = ta.zs.length := hP.zs
    have hPc : g.l.c true = true := hP.c
    obtain ⟨_, cs, hc, hL⟩ := d5
    rcases hL with ⟨_, e, _⟩ | ⟨_, e, _⟩ | ⟨l, A, c, e, rfl, hA1, hA2, f, hf⟩
    · cases e
    · simp at e; rw [e] at v1; simp at v1
    · simp at e
      subst e
      have hw : vs.length ≤ 2147483646 ∧ ∀ v ∈ vs, wf (g.e.m ver true).w v := v2
      refine ⟨⟨A, c, vs, ?_, ⟨v1, hw.1⟩, by show A < w.heap.size; omega, fun i v hv => ?_, ?_⟩, v3⟩
      · have := hc 0 _ rfl
        show w.cell? ⟨b, ta.o, none⟩ = _
        rw [← hPo]
        simpa using this
      · obtain ⟨q1, q2, q3⟩ := hf i v hv
        refine ⟨?_, (f i).1, (f i).2, by show (f i).2 ≤ w.heap.size; omega, ?_⟩
        · show wf (ta.e.m ver true).w v
          rw [← hPm]
          exact hw.2 v (List.mem_iff_getElem?.2 ⟨i, hv⟩)
        · show Holds D (ta.e.m ver true) w (f i).1 (f i).2 A (i * ta.zs.length) v
          rw [← hPm, ← hPz]
          exact q3
      · show encL ver true g vs = cntEnc true 4 (some vs.length) ++ (vs.map (enc (ta.e.m ver true).w)).flatten
        rw [← hPm]
        show cntEnc (g.l.c true) 4 (some vs.length) ++ _ = _
        rw [hPc]
        rfl

/-- All that 'again' rests on. -/
structure AgH (P : Program) (G : Gn) (E : Hn) (Y : TGn) (Z : ZGn) (K : TypeId) (Fr : World → World → Prop) (T PT DF i16 M0 NT sz hi oT : Nat) (n : Int) (r : R) (a : A) (gs : List (TG × TA)) (c1 : Code) (M1 NT1 : Nat) (d1 : Code) (EI : World → Prop) (g sl ER RF RD WR : Nat) : Prop where
  hr : MsgT P G Y K T PT DF i16 M0 NT sz hi oT n r (gs.map (·.1)) c1 EI
  hw : MsgWT P E Z Fr T i16 M1 NT1 oT n a (gs.map (·.2)) d1
  prs : ∀ x ∈ gs, PairOk x.1 x.2
  uq : gs.Pairwise fun x y => x.1.key ≠ y.1.key
  gl : gs.length ≤ 900
  hk : P.underlying K = some (.int .u32)
  ma : ∀ ver flex, a.m ver flex = r.m ver flex
  rdP : Plain P RD
  wrP : Plain P WR
  rd : ∀ {w : World} {x y : Value} {R : Ending → World → Prop}, (Calls P RF #[x, y, .bool false] w fun e w' => ∃ v, e = .returned v ∧ R (.returned v) w') → Calls P RD #[x, y] w R
  rf : ∃ fn cr, P.funcs[RF]? = some fn ∧ fn.body = some (gReadT G Y T PT DF i16 M0 n r (gs.map (·.1)) c1 cr) ∧ fn.results = #[.tmp 6] ∧ fn.ntmps = NT
  wf : ∃ fn cw, P.funcs[WR]? = some fn ∧ fn.body = some (gWriteT E Z T i16 M1 n a (gs.map (·.2)) d1 cw) ∧ fn.results = #[.tmp 4] ∧ fn.ntmps = NT1
  slT : P.underlying sl = some (.slice E.u8)
  u8 : ∃ i, P.info? E.u8 = some i ∧ i.zero = some (.int .u8 0) ∧ i.size = 1 ∧ i.bytes = 1
  er : P.underlying ER = some (.interface (P.methodsAt ER))
  keep : ∀ w w', EI w → Only (fun k => g + 1 ≤ k) w w' → EI w'
  lt : ∀ w, EI w → g < w.heap.size
  n1 : ∀ q ∈ r.nils, 1 ≤ q.1

/-- AGAIN. -/
theorem AgT_calls {P : Program} {G : Gn} {E : Hn} {Y : TGn} {Z : ZGn} {K : TypeId} {Fr : World → World → Prop} {T PT DF i16 M0 NT sz hi oT : Nat} {n : Int} {r : R} {a : A} {gs : List (TG × TA)} {c1 : Code} {M1 NT1 : Nat} {d1 : Code} {EI : World → Prop} {g sl ER RF RD WR : Nat}
    (H : AgH P G E Y Z K Fr T PT DF i16 M0 NT sz hi oT n r a gs c1 M1 NT1 d1 EI g sl ER RF RD WR) {NP SV AG bo int : Nat} {fn : Func} (hfn : P.funcs[AG]? = some fn) (c0 : Code) (hbody : fn.body = some (gAgM NP SV RD WR PT sl ER bo int i16 c0)) (hres : fn.results = #[.tmp 4, .tmp 5]) (hnt : fn.ntmps = 19)
    (hp1 : Plain P NP) (hp2 : Plain P SV) (hi_ : P.underlying int = some (.int .i64)) (hj : P.underlying i16 = some (.int .i16))
    (hNP : ∀ w, Calls P NP #[] w fun e w' => e = .returned (.pointer (some ⟨w.heap.size, 0, none⟩)) ∧ Only (fun _ => False) w w' ∧ Blk w' w.heap.size sz ∧ (∀ q ∈ r.nils, w'.cell? ⟨w.heap.size, q.1, none⟩ = some (nilV q.2)) ∧ (∀ x ∈ gs, w'.cell? ⟨w.heap.size, x.1.o, none⟩ = some (.slice none 0 0)) ∧ w'.cell? ⟨w.heap.size, oT, none⟩ = some (.map none))
    (hSV : ∀ w b n, Blk w b sz → Calls P SV #[.pointer (some ⟨b, 0, none⟩), .int .i16 n] w fun e w' => e = .returned (.tuple #[]) ∧ Only (· = b) w w' ∧ Upd b 0 1 w w' ∧ w'.cell? ⟨b, 0, none⟩ = some (.int .i16 n))
    {w : World} {ver : Int} {vs : Value} {B : Nat} {bs more : List UInt8} (hB : B ≤ w.heap.size) (hv : Oc w B vs bs) (hl : bs.length ≤ lim) (hI : EI w) (hr : IntKind.i16.wrap ver = ver) (hv0 : 0 ≤ ver)
    {x : Val} {gv : List ((TG × TA) × Option (List Val))} {un : List (Nat × List UInt8)} (hgv : gv.map (·.1) = gs) (hGh : GhT ver (decide (ver ≥ n)) (gs.map (·.1)) gv un) (hok : (r.m ver (decide (ver ≥ n))).w.ok = true) (hwf : Kf.wf (r.m ver (decide (ver ≥ n))).w x)
    (hbs : bs ++ more = enc (r.m ver (decide (ver ≥ n))).w x ++ tgB (decide (ver ≥ n)) (knV ver (decide (ver ≥ n)) gv ++ un)) (hlen : (enc (r.m ver (decide (ver ≥ n))).w x).length + (encTags (knV ver (decide (ver ≥ n)) gv ++ un)).length + 100 ≤ lim2) :
    Calls P AG #[.int .i64 ver, vs] w fun e w' => (more = [] ∧ FullP E.u8 bs w e w') ∨ (more ≠ [] ∧ CutP w e w') := by
  refine calls_of_wp hfn hbody ?_
  obtain ⟨a_, ha, asz, adf, ag⟩ := start_act #[.int .i64 ver, vs] fn.ntmps (by rw [hnt]; simp)
  rw [← ha]
  have a0 : gt a_ 0 = .int .i64 ver := ag 0 _ rfl
  have a1 : gt a_ 1 = vs := ag 1 _ rfl
  clear ag ha
  rw [hnt] at asz
  have hgw := H.lt w hI
  have hsz1 := H.hr.szo
  have hgv1 : gv.map (fun x => x.1.1) = gs.map (·.1) := by rw [← hgv, List.map_map]; rfl
  have hgv2 : (gEV ver (decide (ver ≥ n)) gv).map Prod.fst = gs.map (·.2) := by rw [← hgv, gEV, List.map_map, List.map_map]; rfl
  have hmem : ∀ y ∈ gv, y.1 ∈ gs := fun y hy => by rw [← hgv]; exact List.mem_map.2 ⟨y, hy, rfl⟩
  have hprs : ∀ y ∈ gv, PairOk y.1.1 y.1.2 := fun y hy => H.prs _ (hmem y hy)
  have hgl : gv.length ≤ 900 := by have h1 := H.gl; have h2 := congrArg List.length hgv; rw [List.length_map] at h2; omega
  have hguq : ∀ y ∈ gv, ∀ z ∈ gv, y.1.1.key = z.1.1.key → y = z := by
    have h1 := H.uq
    rw [← hgv, List.pairwise_map] at h1
    exact pair_uq h1
  have hrsd := hGh.rsd hgv1 H.hr.gok hgl
  refine wp_seq (wp_reg (stV (by omega) (runs_assign _) fun b1 k1 => stV (by rw [k1.size]; omega) (runs_assign _) fun b2 k2 => stE (wp_seq (wp_reg ?_))))
  refine stC (vs := #[]) (R := fun e w' => e = .returned (.pointer (some ⟨w.heap.size, 0, none⟩)) ∧ Only (fun _ => False) w w' ∧ Blk w' w.heap.size sz ∧ (∀ q ∈ r.nils, w'.cell? ⟨w.heap.size, q.1, none⟩ = some (nilV q.2)) ∧ (∀ x ∈ gs, w'.cell? ⟨w.heap.size, x.1.o, none⟩ = some (.slice none 0 0)) ∧ w'.cell? ⟨w.heap.size, oT, none⟩ = some (.map none)) (by rw [k2.size, k1.size]; omega) hp1 (by simp) ((hNP w).mono fun e w' h => ⟨_, h.1, rfl, h.2⟩) fun p w1 b3 hR k3 => ?_
  obtain ⟨hp, O1, hb1, hn, hn2, hn3⟩ := hR
  obtain rfl : p = _ := by simpa using hp
  refine stV (by rw [k3.size, k2.size, k1.size]; omega) (runs_assign _) fun b4 k4 => stE (wp_seq (wp_reg ?_))
  have e6 : gt b4 6 = .pointer (some ⟨w.heap.size, 0, none⟩) := k4.new.trans k3.new
  have s4 : b4.tmps.size = 19 := by rw [k4.size, k3.size, k2.size, k1.size, asz]
  have d4 : b4.defers = [] := by rw [k4.defers, k3.defers, k2.defers, k1.defers, adf]
  have e0 : gt b4 0 = .int .i64 ver := by rw [k4.old _ (by decide), k3.old _ (by decide), k2.old _ (by decide), k1.old _ (by decide), a0]
  have e1 : gt b4 1 = vs := by rw [k4.old _ (by decide), k3.old _ (by decide), k2.old _ (by decide), k1.old _ (by decide), a1]
  clear k1 k2 k3 k4 a0 a1
  refine stV (by omega) (runs_move _) fun b5 k5 => stV (by rw [k5.size]; omega) (runs_move _) fun b6 k6 => stV (by rw [k6.size, k5.size]; omega) (runs_conv hi_ hj (n := ver) (by rw [evT, k6.new, evT, k5.old _ (by decide), e0])) fun b7 k7 => ?_
  rw [hr] at k7
  refine stC (vs := #[.pointer (some ⟨w.heap.size, 0, none⟩), .int .i16 ver]) (R := fun e w' => e = .returned (.tuple #[]) ∧ Only (· = w.heap.size) w1 w' ∧ Upd w.heap.size 0 1 w1 w' ∧ w'.cell? ⟨w.heap.size, 0, none⟩ = some (.int .i16 ver)) (by rw [k7.size, k6.size, k5.size]; omega) hp2 (args2 (by rw [k7.old _ (by decide), k6.old _ (by decide), k5.new, evT, e6]) k7.new) ((hSV w1 w.heap.size ver hb1).mono fun e w' h => ⟨_, h.1, rfl, h.2⟩) fun u w2 b8 hR k8 => stE (wp_seq (wp_seq (wp_reg ?_)))
  obtain ⟨_, O2, hU, hc⟩ := hR
  have e6' : gt b8 6 = .pointer (some ⟨w.heap.size, 0, none⟩) := by rw [k8.old _ (by decide), k7.old _ (by decide), k6.old _ (by decide), k5.old _ (by decide), e6]
  have s8 : b8.tmps.size = 19 := by rw [k8.size, k7.size, k6.size, k5.size, s4]
  have d8 : b8.defers = [] := by rw [k8.defers, k7.defers, k6.defers, k5.defers, d4]
  have e1' : gt b8 1 = vs := by rw [k8.old _ (by decide), k7.old _ (by decide), k6.old _ (by decide), k5.old _ (by decide), e1]
  clear k5 k6 k7 k8 e0 e1 e6
  have O02 : Only (fun _ => False) w w2 := O1.own (B := w.heap.size) (O2.mono fun k _ (h : k = _) => by omega) (Nat.le_refl _)
  have hb2 : Blk w2 w.heap.size sz := hU.blk hb1
  have hs2 := O02.size
  have hs1 := O1.size
  have hbl2 := hb2.lt
  have hpl : ∀ x ∈ gs, 1 ≤ x.1.o := fun x hx => by have := (H.hr.gok.pl x.1 (List.mem_map.2 ⟨x, hx, rfl⟩)).1; have := H.hr.hi1; omega
  have hplT : 1 ≤ oT := by have := H.hr.gok.plT.1; have := H.hr.hi1; omega
  refine stV (by omega) (runs_move _) fun b9 k9 => stV (by rw [k9.size]; omega) (runs_move _) fun b10 k10 => ?_
  have s10 : b10.tmps.size = 19 := by rw [k10.size, k9.size, s8]
  have d10 : b10.defers = [] := by rw [k10.defers, k9.defers, d8]
  have p10 : gt b10 12 = .pointer (some ⟨w.heap.size, 0, none⟩) := by rw [k10.old _ (by decide), k9.new, evT, e6']
  have q10 : gt b10 13 = vs := by rw [k10.new, evT, k9.old _ (by decide), e1']
  have r10 : gt b10 6 = .pointer (some ⟨w.heap.size, 0, none⟩) := by rw [k10.old _ (by decide), k9.old _ (by decide), e6']
  clear k9 k10 e6' e1' s8 d8 s4 d4 asz adf
  have hv2 : Oc w2 B vs bs := hv.keep (O02.kept0 hB)
  have hI2 : EI w2 := H.keep w w2 hI (O02.mono fun _ _ h => h.elim)
  -- the octets are copied, read
  obtain ⟨i0, hi0, hz0, hz1, hz2⟩ := H.u8
  intro all pre os hall
  obtain ⟨o, os', e⟩ := mkOps_cons ⟨some 14, .call ⟨.builtin .append, #[.const (.slice none 0 0), .tmp 13], #[sl, sl]⟩, none⟩ [⟨some 15, .call ⟨.value (.func RD), #[.tmp 12, .tmp 14], #[PT, sl]⟩, none⟩, ⟨some 16, .binOp .neq ER (.tmp 15) (.const .nilIface) bo, none⟩] os
  rw [e] at hall ⊢
  refine wp_app_oc (base := w2.heap.size) (ds := []) (v := .slice none 0 0) rfl _ _ sl rfl H.slT hi0 hz0 hz1 hz2 rfl (World.ownsRow_nil _ _ _ _) q10 hv2 (by omega) (by simp only [List.length_nil, Nat.zero_add]; unfold lim at hl; unfold lim2; omega) fun v1 w3 hown hw3 => ?_
  suffices K : wpC P (Exit.then ((gAg2c 4 5 16 (pc c0 [1, 1, 1, 0, 1])).wp P (Exit.then ((gAg2r WR PT sl 4 5 [⟨some 17, .move (.tmp 6), none⟩] 17 18 (pc c0 [1, 1, 1, 1])).wp P (bodyPost P fn fun e w' => (more = [] ∧ FullP E.u8 bs w e w') ∨ (more ≠ [] ∧ CutP w e w'))) (bodyPost P fn fun e w' => (more = [] ∧ FullP E.u8 bs w e w') ∨ (more ≠ [] ∧ CutP w e w')))) (Exit.then ((gAg2r WR PT sl 4 5 [⟨some 17, .move (.tmp 6), none⟩] 17 18 (pc c0 [1, 1, 1, 1])).wp P (bodyPost P fn fun e w' => (more = [] ∧ FullP E.u8 bs w e w') ∨ (more ≠ [] ∧ CutP w e w'))) (bodyPost P fn fun e w' => (more = [] ∧ FullP E.u8 bs w e w') ∨ (more ≠ [] ∧ CutP w e w'))))
      [⟨some 15, .call ⟨.value (.func RD), #[.tmp 12, .tmp 14], #[PT, sl]⟩, none⟩, ⟨some 16, .binOp .neq ER (.tmp 15) (.const .nilIface) bo, none⟩] (b10.put (some 14) v1) w3 from K all (pre ++ [mkOp ⟨some 14, .call ⟨.builtin .append, #[.const (.slice none 0 0), .tmp 13], #[sl, sl]⟩, none⟩ o]) os' (by simpa using hall)
  have k1 : Nx b10 14 v1 (b10.put (some 14) v1) := Nx.mk' (by omega)
  generalize b10.put (some 14) v1 = b11 at k1
  rw [List.nil_append] at hown
  have hsz3 := hw3.size
  obtain ⟨D, nn, A, nA, c, rfl, hsp, hDl, hDb⟩ := hown.sp (by omega) (by omega)
  have hb3 : Blk w3 w.heap.size sz := hb2.keep (hw3.block _ (by omega) (by omega))
  have hc3 : ∀ o, w3.cell? ⟨w.heap.size, o, none⟩ = w2.cell? ⟨w.heap.size, o, none⟩ := fun o => World.cell?_of_block (w := w2) (hw3.block w.heap.size (by omega) (by omega))
  obtain ⟨fr, cr, hf1, hf2, hf3, hf4⟩ := H.rf
  have hcl2 : ∀ o, 1 ≤ o → w3.cell? ⟨w.heap.size, o, none⟩ = w1.cell? ⟨w.heap.size, o, none⟩ := fun o ho => (hc3 o).trans (hU.cell hb1 (.inr ho))
  have hcallR : Calls P RD #[.pointer (some ⟨w.heap.size, 0, none⟩), .slice A nA c] w3 (ReadTP P K n r (gs.map (·.1)) oT sz D w.heap.size w3 ver x (knV ver (decide (ver ≥ n)) gv ++ un) more) :=
    H.rd (R := ReadTP P K n r (gs.map (·.1)) oT sz D w.heap.size w3 ver x (knV ver (decide (ver ≥ n)) gv ++ un) more) ((readFromT_calls H.hr hf1 cr hf2 hf3 hf4 (L := g + 1) hb3 hsp hl hDl (by omega) hgw (H.keep w2 w3 hI2 (hw3.mono fun k _ hk => by show g + 1 ≤ k; have : w2.heap.size ≤ k := hk; omega)) H.keep
      (fun q hq => (hcl2 q.1 (H.n1 q hq)).trans (hn q hq)) (fun t ht => by
        obtain ⟨y, hy, rfl⟩ := List.mem_map.1 ht
        exact (hcl2 _ (hpl y hy)).trans (hn2 y hy)) ((hcl2 _ hplT).trans hn3) ((hc3 0).trans hc) hrsd hGh.fl hok hwf hbs).mono fun e w' h => by obtain ⟨v, rfl, k⟩ := h; exact ⟨v, rfl, v, rfl, k⟩)
  refine stC (R := ReadTP P K n r (gs.map (·.1)) oT sz D w.heap.size w3 ver x (knV ver (decide (ver ≥ n)) gv ++ un) more) (by rw [k1.size]; omega) H.rdP (args2 ((k1.old 12 (by decide)).trans p10) k1.new) (hcallR.mono fun e w' h => by obtain ⟨v, rfl, k⟩ := h; exact ⟨v, rfl, v, rfl, k⟩) fun v w4 b12 hR k2 => ?_
  obtain ⟨v', e', ho, hb4, hR⟩ := hR
  obtain rfl : v = v' := by simpa using e'
  have hs4 := ho.size
  have O04 : Only (fun _ => False) w w4 := only_own2 O02 (Nat.le_refl _) hs2 ((hw3.mono (T := fun j => w2.heap.size ≤ j ∨ j = w.heap.size) fun _ _ h => .inl h).trans (ho.mono fun _ _ h => .inr h))
  have e1x : ∀ (b : Act) j, b.tmps.getD j undef = gt b j := fun _ _ => rfl
  rcases hR with ⟨hm, rfl, hcv, lo, h2, hlo, hh2, hH, hT⟩ | ⟨hm, t, u, rfl⟩
  · refine stV (v := .bool false) (by rw [k2.size, k1.size]; omega) (runs_neNil H.er (x := .tmp 15) (by rw [evT]; exact k2.new) (.inl ⟨rfl, rfl⟩)) fun b13 k3 => stE ?_
    have s13 : b13.tmps.size = 19 := by rw [k3.size, k2.size, k1.size, s10]
    have d13 : b13.defers = [] := by rw [k3.defers, k2.defers, k1.defers, d10]
    have r13 : gt b13 6 = .pointer (some ⟨w.heap.size, 0, none⟩) := by rw [k3.old _ (by decide), k2.old _ (by decide), k1.old _ (by decide), r10]
    refine wp_cond_false (by rw [evT]; exact k3.new) (wp_skip (wp_seq (wp_reg (stV (by omega) (runs_move _) fun b14 k4 => ?_))))
    obtain ⟨fw, cw, hw1, hw2, hw3', hw4⟩ := H.wf
    obtain ⟨B', tv, n', t1, t2, t3, t4, t5, t6⟩ := id hT
    rw [hGh.unk hgv1] at t5
    obtain ⟨cU, _, hupU⟩ := upTags_suf _ _ _ hGh.up
    have hTg : Holds D .tags w4 B' w4.heap.size w.heap.size oT (.tags un) := ⟨t2, [tv], fun j v hj => by
      match j, hj with
      | 0, hj => simp at hj; subst hj; simpa using t4, TagsV.leaf H.hk t5⟩
    have hkn := knT_gEV ver (decide (ver ≥ n)) gv hprs
    have hcall := appendToT_calls H.hw hw1 cw hw2 hw3' hw4 (w := w4) (D := D) (b := w.heap.size) (lo := lo) (hi := h2) (lo2 := B') (hi2 := w4.heap.size) (ver := ver) (x := x) (gE := gEV ver (decide (ver ≥ n)) gv) (un := un) hgv2 hcv hv0 (by rw [H.ma]; exact hH) (by rw [H.ma]; exact hwf)
      (fun hfx => by
        rw [hfx] at hT hGh ⊢
        exact tval_of hGh hgv1 hprs H.hr.gok hguq hT) hTg (upTags_mono (Nat.zero_le _) hupU) hGh.len (Nat.le_refl _) (by rw [H.ma, hkn]; exact hlen) (by omega) hh2 (by omega)
    rw [H.ma, hkn, ← hbs, hm, List.append_nil] at hcall
    refine stC (R := fun e w' => ∃ v, e = .returned v ∧ Own E.u8 w4.heap.size w' v bs ∧ Only (fun _ => False) w4 w') (by rw [k4.size]; omega) H.wrP (args2c (v := .slice none 0 0) (by rw [k4.new, evT]; exact r13)) (hcall.mono fun e w' ⟨v, h, k⟩ => ⟨v, h, v, rfl, k⟩) fun v w5 b15 hR k5 => ?_
    obtain ⟨v', e', hown5, ho5⟩ := hR
    obtain rfl : v = v' := by simpa using e'
    refine stV (by rw [k5.size, k4.size]; omega) (runs_assign _) fun b16 k6 => stV (by rw [k6.size, k5.size, k4.size]; omega) (runs_assign _) fun b17 k7 => stE (wp_ret ?_)
    refine bodyPost_ret (results_tmp2 hres _ _ _) (by rw [k7.defers, k6.defers, k5.defers, k4.defers, d13]) ?_
    rw [e1x, e1x, k7.new, k7.old _ (by decide), k6.new, evT, k5.new]
    exact .inl ⟨hm, fullP_of ⟨v, rfl, O04.trans ho5, hown5.lower O04.size⟩⟩
  · refine stV (v := .bool true) (by rw [k2.size, k1.size]; omega) (runs_neNil H.er (x := .tmp 15) (by rw [evT]; exact k2.new) (.inr ⟨⟨_, _, rfl⟩, rfl⟩)) fun b13 k3 => stE ?_
    have s13 : b13.tmps.size = 19 := by rw [k3.size, k2.size, k1.size, s10]
    have d13 : b13.defers = [] := by rw [k3.defers, k2.defers, k1.defers, d10]
    refine wp_cond_true (by rw [evT]; exact k3.new) (wp_seq (wp_reg (stV (by omega) (runs_assign _) fun a3 k3 => stV (by rw [k3.size]; omega) (runs_assign _) fun a4 k4 => stE (wp_ret ?_))))
    show bodyPost P fn (fun e w' => (more = [] ∧ FullP E.u8 bs w e w') ∨ (more ≠ [] ∧ CutP w e w')) .ret a4 w4
    refine bodyPost_ret (results_tmp2 hres _ _ _) (by rw [k4.defers, k3.defers, d13]) ?_
    rw [e1x, e1x, k4.new, k4.old _ (by decide), k3.new]
    exact .inr ⟨hm, rfl, O04⟩
end Go.Proofs.YtpefipjgcpchaaaGreatDoorR.Kf
