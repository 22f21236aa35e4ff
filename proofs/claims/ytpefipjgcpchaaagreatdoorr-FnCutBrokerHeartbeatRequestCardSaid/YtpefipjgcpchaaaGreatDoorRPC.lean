/- Reading, the sixth part: the whole code of a list. -/
import Derived.Test.YtpefipjgcpchaaaGreatDoorRPE
namespace Go.Proofs.YtpefipjgcpchaaaGreatDoorR.Kf
set_option linter.unusedVariables false
set_option linter.unusedSimpArgs false
open Go Go.RowKit

theorem lenDec_le {c : Bool} {l bs' : List UInt8} {r : Int} (h : lenDec c l = some (r, bs')) : r ≤ 2147483647 := by
  unfold lenDec at h
  cases c with
  | true =>
    simp only [if_true] at h
    cases hu : uvDec l with
    | none => rw [hu] at h; cases h
    | some x =>
      obtain ⟨u, l1⟩ := x
      have := uvDec_lt hu
      rw [hu] at h
      simp only at h
      have hq : (if u ≤ 2147483648 then (u : Int) - 1 else (u : Int) - 4294967296 - 1) ≤ 2147483647 := by split <;> omega
      generalize (if u ≤ 2147483648 then (u : Int) - 1 else (u : Int) - 4294967296 - 1) = q at h hq
      split at h
      · cases h
      · simp only [Option.some.injEq, Prod.mk.injEq] at h
        rw [← h.1]; exact hq
  | false =>
    simp only [Bool.false_eq_true, if_false] at h
    split at h
    · cases h
    · rename_i hl
      have hb := beDec_lt (l.take 4)
      have hlen : (l.take 4).length = 4 := by simp; omega
      rw [hlen] at hb
      split at h
      · cases h
      · simp only [Option.some.injEq, Prod.mk.injEq] at h
        rw [← h.1]
        simp only [Prim.conv]
        split <;> omega

theorem Only.fresh {S : Nat → Prop} {w w' : World} (h : Only (fun j => S j ∨ w.heap.size ≤ j) w w') : Only S w w' :=
  h.mono fun j hj hs => by rcases hs with hs | hs; exact hs; omega

section
variable {X : RX} {Q : Exit → Act → World → Prop}

/-- A loop of no rounds. -/
theorem loop0_wp {is ls m : Nat} {body : Code → Code} {c0 : Code} {a : Act} {w : World} {r : Int} (hl : gt a ls = .int .i32 r) (hr : r ≤ 0) (his : is < m) (hls : ls < is) (hN : m + 5 ≤ a.tmps.size)
    (h : ∀ a', Ag (fun j => j = is ∨ (m ≤ j ∧ j < m + 5)) a a' → Q .normal a' w) : (gFor X.G is ls m body c0).wp X.P Q a w := by
  refine wp_seq (wp_reg (wpC_val (runs_assign _) (wpC_nil ?_)))
  have zi : is < a.tmps.size := by omega
  have g0 := (Ag.refl (fun j => j = is ∨ (m ≤ j ∧ j < m + 5)) a).put (d := is) (by omega) zi (a.eval (.const (.int .i32 0)))
  have e0 : gt (a.put (some is) (a.eval (.const (.int .i32 0)))) is = .int .i32 0 := by rw [gt_put zi, if_pos rfl]; rfl
  generalize a.put (some is) (a.eval (.const (.int .i32 0))) = a0 at g0 e0
  have hl0 : gt a0 ls = .int .i32 r := (g0.keep ls (by omega)).trans hl
  refine wp_block (wp_loop_once (wp_seq (wp_seq (wp_reg (wpC_val (runs_move _) (wpC_val (runs_move _) ?_))))))
  have z0 : m < a0.tmps.size := by rw [g0.size]; omega
  rw [evT, e0]
  have g1 := g0.put (d := m) (by omega) z0 (.int .i32 0)
  have e1 : (a0.put (some m) (.int .i32 0)).eval (.tmp ls) = .int .i32 r := by rw [evT, gt_put z0, if_neg (by omega)]; exact hl0
  rw [e1]
  have e1b : gt (a0.put (some m) (.int .i32 0)) m = .int .i32 0 := by rw [gt_put z0, if_pos rfl]
  generalize a0.put (some m) (.int .i32 0) = a1 at g1 e1b
  have z1 : m + 1 < a1.tmps.size := by rw [g1.size]; omega
  have g2 := g1.put (d := m + 1) (by omega) z1 (.int .i32 r)
  refine wpC_val (runs_cmp .lss _ (.inl ⟨rfl, rfl⟩) (k := .i32) (p := 0) (q := r) (by rw [evT, gt_put z1, if_neg (by omega)]; exact e1b) (by rw [evT, gt_put z1, if_pos rfl])) (wpC_nil ?_)
  have z2 : m + 2 < (a1.put (some (m + 1)) (.int .i32 r)).tmps.size := by rw [g2.size]; omega
  have g3 := g2.put (d := m + 2) (by omega) z2 (.bool (decide ((0 : Int) < r)))
  refine wp_cond (t := decide ((0 : Int) < r)) (by rw [evT, gt_put z2, if_pos rfl]) ?_
  rw [if_neg (by simp; omega)]
  refine wp_exit ?_
  show (if Code.id0 (pc c0 [1]) = Code.id0 (pc c0 [1]) then Q .normal _ w else Q (.exit _) _ w)
  rw [if_pos rfl]
  exact h _ g3

def gGrow (G : Gn) (TS ls as m : Nat) (c : Code) : Code :=
  .seq (reg [⟨some m, .move (.tmp ls), none⟩, ⟨some (m + 1), .binOp .gtr G.i32 (.tmp m) (.const (.int .i32 0)) G.i32, none⟩] (pc c [0]))
    (.cond (.tmp (m + 1)) (reg [⟨some (m + 2), .move (.tmp as), none⟩, ⟨some (m + 3), .move (.tmp ls), none⟩, ⟨some (m + 4), .call ⟨.builtin .append, #[.tmp (m + 2), .tmp (m + 3)], #[TS, G.i32]⟩, none⟩, ⟨some as, .assign (.tmp (m + 4)), none⟩] (pc c [1, 0])) .skip)

theorem gGrow_wp (h32 : X.P.underlying X.G.i32 = some (.int .i32)) {TS sz eb : Nat} {zs : List Value} (hS : Sl X.P TS sz eb zs) (hb : eb ≤ 2048) {ls as m : Nat} {c0 : Code} {a : Act} {w : World} {r : Int} {p : Option Addr} (hl : gt a ls = .int .i32 r) (ha : gt a as = .slice p 0 0)
    (hr : r ≤ (lim : Int)) (h1 : ls < m) (h2 : as < m) (hne : ls ≠ as) (hN : m + 5 ≤ a.tmps.size)
    (hno : r ≤ 0 → ∀ a', Ag (fun j => j = as ∨ (m ≤ j ∧ j < m + 5)) a a' → gt a' as = .slice p 0 0 → Q .normal a' w)
    (hyes : ∀ (n : Nat) a' w' c, r = n → 0 < n → Ag (fun j => j = as ∨ (m ≤ j ∧ j < m + 5)) a a' → gt a' as = .slice (some ⟨w.heap.size, 0, none⟩) n c → n ≤ c → Only (fun _ => False) w w' → w'.heap.size = w.heap.size + 1 → Blk w' w.heap.size (c * sz) →
      (∀ i, i < n → Cells w' w.heap.size (i * sz) zs) → Q .normal a' w') : (gGrow X.G TS ls as m c0).wp X.P Q a w := by
  refine wp_seq (wp_reg (wpC_val (runs_move _) ?_))
  have z0 : m < a.tmps.size := by omega
  rw [evT, hl]
  have g1 := (Ag.refl (fun j => m ≤ j ∧ j < m + 5) a).put (d := m) (by omega) z0 (.int .i32 r)
  have e1 : gt (a.put (some m) (.int .i32 r)) m = .int .i32 r := by rw [gt_put z0, if_pos rfl]
  generalize a.put (some m) (.int .i32 r) = a1 at g1 e1
  refine wpC_val (runs_cmp .gtr _ (.inr (.inr (.inl ⟨rfl, rfl⟩))) (k := .i32) (p := r) (q := 0) e1 rfl) (wpC_nil ?_)
  have z1 : m + 1 < a1.tmps.size := by rw [g1.size]; omega
  have g2 := g1.put (d := m + 1) (by omega) z1 (.bool (decide (r > 0)))
  have e2 : gt (a1.put (some (m + 1)) (.bool (decide (r > 0)))) (m + 1) = .bool (decide (r > 0)) := by rw [gt_put z1, if_pos rfl]
  generalize a1.put (some (m + 1)) (.bool (decide (r > 0))) = a2 at g2 e2
  have l2 : gt a2 ls = .int .i32 r := (g2.keep ls (by omega)).trans hl
  have s2 : gt a2 as = .slice p 0 0 := (g2.keep as (by omega)).trans ha
  refine wp_cond (t := decide (r > 0)) e2 ?_
  by_cases hp : r > 0
  · rw [if_pos (by simpa using hp)]
    obtain ⟨n, rfl⟩ : ∃ n : Nat, r = n := ⟨r.toNat, by omega⟩
    refine wp_reg (wpC_val (runs_move _) ?_)
    rw [evT, s2]
    have z2 : m + 2 < a2.tmps.size := by rw [g2.size]; omega
    have g3 := g2.put (d := m + 2) (by omega) z2 (.slice p 0 0)
    have e3 : gt (a2.put (some (m + 2)) (.slice p 0 0)) (m + 2) = .slice p 0 0 := by rw [gt_put z2, if_pos rfl]
    generalize a2.put (some (m + 2)) (.slice p 0 0) = a3 at g3 e3
    have l3 : gt a3 ls = .int .i32 (n : Nat) := (g3.keep ls (by omega)).trans hl
    refine wpC_val (runs_move _) ?_
    rw [evT, l3]
    have z3 : m + 3 < a3.tmps.size := by rw [g3.size]; omega
    have g4 := g3.put (d := m + 3) (by omega) z3 (.int .i32 (n : Nat))
    have e4 : gt (a3.put (some (m + 3)) (.int .i32 (n : Nat))) (m + 3) = .int .i32 (n : Nat) := by rw [gt_put z3, if_pos rfl]
    have e4b : gt (a3.put (some (m + 3)) (.int .i32 (n : Nat))) (m + 2) = .slice p 0 0 := by rw [gt_put z3, if_neg (by omega)]; exact e3
    generalize a3.put (some (m + 3)) (.int .i32 (n : Nat)) = a4 at g4 e4 e4b
    obtain ⟨c, w', hrun, hc, ho, hsz, hblk, hcs⟩ := runs_make (a := a4) (w := w) (x := .tmp (m + 2)) (y := .tmp (m + 3)) hS h32 e4b e4 (by omega) (by omega) hb
    refine wpC_val hrun ?_
    have z4 : m + 4 < a4.tmps.size := by rw [g4.size]; omega
    have g5 := g4.put (d := m + 4) (by omega) z4 (.slice (some ⟨w.heap.size, 0, none⟩) n c)
    have e5 : gt (a4.put (some (m + 4)) (.slice (some ⟨w.heap.size, 0, none⟩) n c)) (m + 4) = .slice (some ⟨w.heap.size, 0, none⟩) n c := by rw [gt_put z4, if_pos rfl]
    generalize a4.put (some (m + 4)) (.slice (some ⟨w.heap.size, 0, none⟩) n c) = a5 at g5 e5
    refine wpC_val (runs_assign _) (wpC_nil ?_)
    rw [evT, e5]
    have z5 : as < a5.tmps.size := by rw [g5.size]; omega
    exact hyes n _ w' c rfl (by omega) ((g5.mono (S' := fun j => j = as ∨ (m ≤ j ∧ j < m + 5)) fun j hj => .inr hj).put (d := as) (by omega) z5 _) (by rw [gt_put z5, if_pos rfl]) hc ho hsz hblk hcs
  · rw [if_neg (by simpa using hp)]
    exact wp_skip (hno (by omega) a2 (g2.mono fun j hj => .inr hj) s2)

/-! ### the whole -/

def arrT (l : Fl) (nl : Option Int) (bt : Nat) : Nat := 5 + l.t + nullT nl + 15 + bt + 5

def gArr (G : Gn) (T i TS : Nat) (l : Fl) (nl : Option Int) (s k m bt : Nat) (body : Code → Code) (c : Code) : Code :=
  .seq (gLoad T i TS s k m (pc c [0]))
  (.seq (gCopy k (k + 1) (m + 4) (pc c [1, 0]))
  (.seq (gConst (k + 2) (.int .i32 0) (pc c [1, 1, 0]))
  (.seq (gLen G (k + 2) (m + 5) l (pc c [1, 1, 1, 0]))
  (gNull G TS (k + 2) (k + 1) (m + 5 + l.t) nl (fun c =>
    .seq (gOk G (m + 5 + l.t + nullT nl) (pc c [0]))
    (.seq (reg [⟨some (m + 5 + l.t + nullT nl + 3), .move (.tmp (k + 1)), none⟩, ⟨some (m + 5 + l.t + nullT nl + 4), .slice TS (.tmp (m + 5 + l.t + nullT nl + 3)) none (some (.const (.int .i64 0))) none, none⟩, ⟨some (k + 1), .assign (.tmp (m + 5 + l.t + nullT nl + 4)), none⟩] (pc c [1, 0]))
    (.seq (gGrow G TS (k + 2) (k + 1) (m + 5 + l.t + nullT nl + 5) (pc c [1, 1, 0]))
    (.seq (gFor G (k + 3) (k + 2) (m + 5 + l.t + nullT nl + 10) body (pc c [1, 1, 1, 0]))
    (.seq (gCopy (k + 1) k (m + 5 + l.t + nullT nl + 15 + bt) (pc c [1, 1, 1, 1, 0]))
    (sinkF T i TS s k (m + 5 + l.t + nullT nl + 15 + bt + 1) (pc c [1, 1, 1, 1, 1]))))))) (pc c [1, 1, 1, 1])))))

/-- Whether a length below none is null. -/
def nullR (ver : Int) : Option Int → Bool
  | none => false
  | some n => !(decide (ver < n))

theorem arr_reads (hX : XOk X) {T i o u TS sz eb s k m bt b off N : Nat} {zs : List Value} {l : Fl} {nl : Option Int} {em : M} {body : Code → Code} {c0 : Code} {a : Act} {w : World} {nn : Bool} {bs : List UInt8} {bad : Bool}
    (hl : l.ok X.P X.fx) (hst : St X a w nn bs bad) (hs : gt a s = .pointer (some ⟨b, off, none⟩)) (hf : FieldAt X.P T i o TS 1) (hS : Sl X.P TS sz eb zs) (heb : eb ≤ 2048) (hem : em.cells ≤ sz)
    (hb : Blk w b N) (hn : off + o + 1 ≤ N) (hnil : w.cell? ⟨b, off + o, none⟩ = some (.slice none 0 0)) (hbr : b ≠ X.rb) (hbD : (X.L ≤ b ∧ b ≠ X.D))
    (h9 : 9 ≤ X.b9 ∧ X.b9 < k) (hsk : s < k) (hk : k + 4 ≤ X.M0) (hm : X.M0 ≤ m) (hN : m + arrT l nl bt ≤ X.N)
    (hbody : ∀ A cap n, (X.L ≤ A ∧ A ≠ X.D) → A ≠ X.rb → ∀ c a w nn bs bad i, i < n → St X a w nn bs bad → gt a (k + 1) = .slice (some ⟨A, 0, none⟩) n cap → gt a (k + 3) = .int .i32 (i : Nat) → n ≤ cap → Blk w A (cap * sz) → Cells w A (i * sz) zs →
      Reads X (body c) (dec em.w) (fun w' lo hi x => Holds X.D em w' lo hi A (i * sz) x) (k + 4) (m + 5 + l.t + nullT nl + 10 + 5) A (i * sz) (i * sz + sz) a w bs bad) :
    Reads X (gArr X.G T i TS l nl s k m bt body c0) (dec (M.arr (l.c X.flex) nl.isSome (nullR X.ver nl) sz em).w) (fun w' lo hi x => Holds X.D (M.arr (l.c X.flex) nl.isSome (nullR X.ver nl) sz em) w' lo hi b (off + o) x) k m b (off + o) (off + o + 1) a w bs bad := by
  intro Q hQ
  have hrb := hst.rb_gt
  have hrl := hst.st.lt
  have hbl := hb.lt
  have hsz := hst.size
  have hM := hX.N0
  unfold arrT at hN
  refine wp_seq (gLoad_wp hs hf hS.one hnil (by omega) (by omega) fun a1 g1 v1 => ?_)
  have f1 : Ag (Ch X.M0 k m) a a1 := g1.mono fun j hj => by unfold Ch; omega
  refine wp_seq (gCopy_wp (by rw [f1.size]; omega) (by rw [f1.size]; omega) fun a2 g2 v2 => ?_)
  have f2 : Ag (Ch X.M0 k m) a a2 := f1.trans (g2.mono fun j hj => by unfold Ch; omega)
  rw [v1] at v2
  refine wp_seq (gConst_wp (by rw [f2.size]; omega) fun a3 g3 v3 => ?_)
  have f3 : Ag (Ch X.M0 k m) a a3 := f2.trans (g3.mono fun j hj => by unfold Ch; omega)
  have w3 : gt a3 (k + 1) = .slice none 0 0 := (g3.keep (k + 1) (by omega)).trans v2
  have st3 := hst.act f3 h9 (by omega) (by omega)
  refine wp_seq (gLen_wp l hl st3 (by omega) (by omega) (by omega) (by omega) fun a4 w4 r g4 => ?_)
  have f4 : Ag (Ch X.M0 k m) a a4 := f3.trans (g4.ag.ch (by omega) (by omega))
  have v4 : gt a4 (k + 1) = .slice none 0 0 := (g4.ag.keep (k + 1) (by unfold Ch; omega)).trans w3
  have ver4 : gt a4 8 = .int .i16 X.ver := (f4.keep 8 (by unfold Ch; omega)).trans hst.ver
  -- behind the test on null
  have rest : ∀ c a5 w5 p, Ag (Ch X.M0 k m) a a5 → Only (· = X.rb) w w5 → gt a5 (k + 1) = .slice p 0 0 → gt a5 (k + 2) = .int .i32 r →
      ((p = none ∧ nullB X.ver r nl = false) ∨ ∃ A, p = some ⟨A, 0, none⟩ ∧ w.heap.size ≤ A ∧ A < w5.heap.size ∧ nullB X.ver r nl = true) →
      ((bad = false ∧ ∃ bs' nn', lenDec (l.c X.flex) bs = some (r, bs') ∧ r ≤ bs'.length ∧ bs'.length ≤ bs.length ∧ St X a5 w5 nn' bs' false) ∨ ((bad = true ∨ lenDec (l.c X.flex) bs = none) ∧ St X a5 w5 false [] true)) →
      (Code.seq (gOk X.G (m + 5 + l.t + nullT nl) (pc c [0]))
        (.seq (reg [⟨some (m + 5 + l.t + nullT nl + 3), .move (.tmp (k + 1)), none⟩, ⟨some (m + 5 + l.t + nullT nl + 4), .slice TS (.tmp (m + 5 + l.t + nullT nl + 3)) none (some (.const (.int .i64 0))) none, none⟩, ⟨some (k + 1), .assign (.tmp (m + 5 + l.t + nullT nl + 4)), none⟩] (pc c [1, 0]))
        (.seq (gGrow X.G TS (k + 2) (k + 1) (m + 5 + l.t + nullT nl + 5) (pc c [1, 1, 0]))
        (.seq (gFor X.G (k + 3) (k + 2) (m + 5 + l.t + nullT nl + 10) body (pc c [1, 1, 1, 0]))
        (.seq (gCopy (k + 1) k (m + 5 + l.t + nullT nl + 15 + bt) (pc c [1, 1, 1, 1, 0]))
        (sinkF T i TS s k (m + 5 + l.t + nullT nl + 15 + bt + 1) (pc c [1, 1, 1, 1, 1]))))))).wp X.P Q a5 w5 := by
    intro c a5 w5 p f5 o5 p5 r5 hp hc
    have hfail : ∀ {a' : Act} {w' : World} (_ : bad = true ∨ lenDec (l.c X.flex) bs = none) (_ : a'.defers = []) (_ : IsErr true (gt a' 6)) (_ : Only (· = X.rb) w w'), Q .ret a' w' := fun {a'} {w'} h1 h2 h3 h4 =>
      hQ.ret a' w' (h1.imp id fun h => by simp only [M.w, dec, h]) h2 h3 (h4.mono fun _ _ h => .inl h) (Upd.same (h4.block b hbl hbr))
    rcases hc with ⟨hbad, bs', nn', hd, hr1, hr2, st5⟩ | ⟨hbad, st5⟩
    case inr =>
      exact wp_seq (gOk_wp hX st5 (by omega) (by omega) (fun h => by cases h) fun _ a6 w6 hdf he ho => hfail hbad hdf he (o5.trans (ho.none _)))
    refine wp_seq (gOk_wp hX st5 (by omega) (by omega) (fun _ a6 w6 g6 o6 => ?_) fun h => by cases h)
    have f6 : Ag (Ch X.M0 k m) a a6 := f5.trans (g6.mono fun j hj => by unfold Ch; omega)
    have p6 : gt a6 (k + 1) = .slice p 0 0 := (g6.keep _ (by omega)).trans p5
    have r6 : gt a6 (k + 2) = .int .i32 r := (g6.keep _ (by omega)).trans r5
    have st6 := (st5.none o6).act (k := k) (m := m) (g6.mono fun j hj => by unfold Ch; omega) h9 (by omega) (by omega)
    have o6' : Only (· = X.rb) w w6 := o5.trans (o6.none _)
    -- a[:0]
    refine wp_seq (wp_reg (wpC_val (runs_move _) ?_))
    rw [evT, p6]
    have z1 : m + 5 + l.t + nullT nl + 3 < a6.tmps.size := by rw [f6.size]; omega
    have q1 := (Ag.refl (Ch X.M0 (k + 1) m) a6).put (d := m + 5 + l.t + nullT nl + 3) (by unfold Ch; omega) z1 (.slice p 0 0)
    have e1 : gt (a6.put (some (m + 5 + l.t + nullT nl + 3)) (.slice p 0 0)) (m + 5 + l.t + nullT nl + 3) = .slice p 0 0 := by rw [gt_put z1, if_pos rfl]
    have e1r : gt (a6.put (some (m + 5 + l.t + nullT nl + 3)) (.slice p 0 0)) (k + 2) = .int .i32 r := by rw [gt_put z1, if_neg (by omega)]; exact r6
    generalize a6.put (some (m + 5 + l.t + nullT nl + 3)) (.slice p 0 0) = b1 at q1 e1 e1r
    refine wpC_val (runs_slice0 hS e1) ?_
    have z2 : m + 5 + l.t + nullT nl + 4 < b1.tmps.size := by rw [q1.size, f6.size]; omega
    have q2 := q1.put (d := m + 5 + l.t + nullT nl + 4) (by unfold Ch; omega) z2 (.slice p 0 0)
    have e2 : gt (b1.put (some (m + 5 + l.t + nullT nl + 4)) (.slice p 0 0)) (m + 5 + l.t + nullT nl + 4) = .slice p 0 0 := by rw [gt_put z2, if_pos rfl]
    have e2r : gt (b1.put (some (m + 5 + l.t + nullT nl + 4)) (.slice p 0 0)) (k + 2) = .int .i32 r := by rw [gt_put z2, if_neg (by omega)]; exact e1r
    generalize b1.put (some (m + 5 + l.t + nullT nl + 4)) (.slice p 0 0) = b2 at q2 e2 e2r
    refine wpC_val (runs_assign _) (wpC_nil ?_)
    rw [evT, e2]
    have z3 : k + 1 < b2.tmps.size := by rw [q2.size, f6.size]; omega
    have q3 := q2.put (d := k + 1) (by unfold Ch; omega) z3 (.slice p 0 0)
    have e3 : gt (b2.put (some (k + 1)) (.slice p 0 0)) (k + 1) = .slice p 0 0 := by rw [gt_put z3, if_pos rfl]
    have e3r : gt (b2.put (some (k + 1)) (.slice p 0 0)) (k + 2) = .int .i32 r := by rw [gt_put z3, if_neg (by omega)]; exact e2r
    generalize b2.put (some (k + 1)) (.slice p 0 0) = a7 at q3 e3 e3r
    have f7 : Ag (Ch X.M0 k m) a a7 := f6.trans (q3.ch (by omega) (by omega))
    have st7 := st6.act (q3.ch (Nat.le_refl _) (Nat.le_refl _)) (by omega) (by omega) (by omega)
    have hlim : bs'.length ≤ lim := Nat.le_trans hr2 hst.lim
    -- the end: the list is stored
    have fin : ∀ (c1 c2 : Code) a9 w9 v x bs9 nn9, Ag (Ch X.M0 k m) a a9 → Only (fun j => j = X.rb ∨ w.heap.size ≤ j) w w9 → gt a9 (k + 1) = v → v.cells = #[v] → v.oneCell' = true →
        dec (M.arr (l.c X.flex) nl.isSome (nullR X.ver nl) sz em).w bs = some (x, bs9) → St X a9 w9 nn9 bs9 false →
        (∀ w10, w10.heap[X.D]? = w9.heap[X.D]? → (∀ q, w.heap.size ≤ q → w10.heap[q]? = w9.heap[q]?) → w10.heap.size = w9.heap.size → LArr (Holds X.D em) nl.isSome sz w10 w.heap.size w10.heap.size [v] x) →
        (Code.seq (gCopy (k + 1) k (m + 5 + l.t + nullT nl + 15 + bt) c1) (sinkF T i TS s k (m + 5 + l.t + nullT nl + 15 + bt + 1) c2)).wp X.P Q a9 w9 := by
      intro c1 c2 a9 w9 v x bs9 nn9 f9 o9 v9 hvc hv1 hdec st9 hH
      refine wp_seq (gCopy_wp (by rw [f9.size]; omega) (by rw [f9.size]; omega) fun a10 g10 v10 => ?_)
      have f10 : Ag (Ch X.M0 k m) a a10 := f9.trans (g10.mono fun j hj => by unfold Ch; omega)
      rw [v9] at v10
      have hb9 : w9.heap[b]? = w.heap[b]? := o9.block b hbl (by omega)
      have hcs : v.cells.toList = [v] := by rw [hvc]
      refine sinkF_wp (n := 1) ((f10.keep s (by unfold Ch; omega)).trans hs) v10 hf (by rw [hvc]; rfl) (by rw [hcs]; simpa using hv1) (hb.keep hb9) hn (by omega) (by omega) (by rw [f10.size]; omega) fun a11 w11 g11 wr11 => ?_
      have f11 : Ag (Ch X.M0 k m) a a11 := f10.trans (g11.tm (by omega))
      have kb : ∀ q, q < w9.heap.size → q ≠ b → w11.heap[q]? = w9.heap[q]? := fun q q1 q2 => wr11.only.block q q1 q2
      have hle := o9.size
      have hrd9 := st9.st
      have st11 : St X a11 w11 nn9 bs9 false := by
        have h1 : St X a11 w9 nn9 bs9 false := by
          have := st9.act (k := k) (m := m) ((g10.mono fun j hj => by unfold Ch; omega : Ag (Ch X.M0 k m) a9 a10).trans (g11.tm (by omega))) h9 (by omega) (by omega)
          exact this
        exact h1.world (hrd9.keep (kb _ (by omega) (by omega)) (kb _ (by omega) (by omega))) (Nat.le_refl _) (wr11.only.mono fun q _ e => by omega)
      have oall : Only (fun j => j = X.rb ∨ j = b) w w11 := Only.fresh ((o9.mono fun q _ h => by omega).trans (wr11.only.mono fun q _ h => by omega))
      have hupd : Upd b (off + o) (off + o + 1) w w11 := by
        have := wr11.upd
        rw [hcs] at this
        intro cur e hcur
        exact this cur e (hb9.trans hcur)
      have hL := hH w11 (kb _ (by omega) (by omega)) (fun q hq => by
        by_cases hql : q < w9.heap.size
        · exact kb q hql (by omega)
        · rw [Array.getElem?_eq_none (by have := wr11.same; omega), Array.getElem?_eq_none (by omega)]) wr11.same
      refine hQ.good a11 w11 x bs9 nn9 hbad hdec f11 oall hupd st11 ⟨by have := wr11.same; omega, [v], ?_, hL⟩
      have := wr11.cells
      rwa [hcs] at this
    refine wp_seq (gGrow_wp hX.i32 hS heb e3r e3 (by omega) (by omega) (by omega) (by omega) (by rw [f7.size]; omega) (fun hr0 a8 g8 p8 => ?_) fun n a8 w8 cap hrn hn0 g8 p8 hcap o8 hsz8 hblk8 hcs8 => ?_)
    · -- no things
      have f8 : Ag (Ch X.M0 k m) a a8 := f7.trans (g8.mono fun j hj => by unfold Ch; omega)
      have r8 : gt a8 (k + 2) = .int .i32 r := (g8.keep _ (by omega)).trans e3r
      refine wp_seq (loop0_wp r8 hr0 (by omega) (by omega) (by rw [f8.size]; omega) fun a9 g9 => ?_)
      have f9 : Ag (Ch X.M0 k m) a a9 := f8.trans (g9.mono fun j hj => by unfold Ch; omega)
      have p9 : gt a9 (k + 1) = .slice p 0 0 := (g9.keep _ (by omega)).trans p8
      have st9 : St X a9 w6 nn' bs' false := st7.act (k := k) (m := m) ((g8.mono fun j hj => by unfold Ch; omega : Ag (Ch X.M0 k m) a7 a8).trans (g9.mono fun j hj => by unfold Ch; omega)) h9 (by omega) (by omega)
      have hto : r.toNat = 0 := by omega
      by_cases hnull : r < 0 ∧ nl.isSome = true ∧ nullR X.ver nl = true
      · refine fin _ _ a9 w6 (.slice p 0 0) (.list none) bs' nn' f9 (o6'.mono fun q _ h => .inl h) p9 rfl rfl ?_ st9 fun w10 _ _ _ => ?_
        · simp only [M.w, dec]
          rw [hd]; simp only; rw [if_pos hnull]
        · rcases hp with ⟨rfl, hp⟩ | ⟨A, rfl, hA1, hA2, hp⟩
          · exact .inl ⟨hnull.2.1, rfl, rfl⟩
          · exfalso
            cases nl with
            | none => simp at hnull
            | some nv =>
              simp only [nullB, nullR, Bool.or_eq_true, Bool.not_eq_true', decide_eq_false_iff_not, decide_eq_true_eq, beq_iff_eq] at hp hnull
              omega
      · refine fin _ _ a9 w6 (.slice p 0 0) (.list (some [])) bs' nn' f9 (o6'.mono fun q _ h => .inl h) p9 rfl rfl ?_ st9 fun w10 _ _ hs10 => ?_
        · simp only [M.w, dec]
          rw [hd]; simp only; rw [if_neg hnull, hto]; rfl
        · rcases hp with ⟨rfl, hp⟩ | ⟨A, rfl, hA1, hA2, hp⟩
          · refine .inr (.inl ⟨?_, rfl, rfl⟩)
            cases nl with
            | none => rfl
            | some nv =>
              exfalso
              simp only [nullB, nullR, Bool.or_eq_false_iff, decide_eq_false_iff_not, beq_eq_false_iff_ne, Bool.not_eq_true', Option.isSome_some, true_and] at hp hnull
              omega
          · have := o6.size
            exact .inr (.inr ⟨[], A, 0, rfl, rfl, hA1, by omega, fun _ => (0, 0), fun j v hv => by simp at hv⟩)
    · -- some things
      have f8 : Ag (Ch X.M0 k m) a a8 := f7.trans (g8.mono fun j hj => by unfold Ch; omega)
      have r8 : gt a8 (k + 2) = .int .i32 (n : Nat) := by rw [← hrn]; exact (g8.keep _ (by omega)).trans e3r
      have st8 : St X a8 w8 nn' bs' false := (st7.act (k := k) (m := m) (g8.mono fun j hj => by unfold Ch; omega) h9 (by omega) (by omega)).none o8
      have hle6 := o6'.size
      have hn31 := lenDec_le hd
      have hsd : ∀ x, listDec (dec em.w) n bs' = x → dec (M.arr (l.c X.flex) nl.isSome (nullR X.ver nl) sz em).w bs = x.map fun y => (.list (some y.1), y.2) := by
        intro x hx
        simp only [M.w, dec]
        rw [hd]; simp only
        rw [if_neg (by omega), hrn, Int.toNat_natCast, hx]
        cases x <;> rfl
      have o68 : Only (fun j => j = X.rb ∨ w.heap.size ≤ j) w w8 := (o6'.mono fun q _ h => .inl h).trans (o8.none _)
      refine wp_seq (loop_wp (k := k + 4) (zs := zs) hem hS.len (fun c a w nn bs bad i hi hst1 h1 h2 hB hC => hbody w6.heap.size cap n (by omega) (by omega) c a w nn bs bad i hi hst1 h1 h2 hcap hB hC) st8 r8 p8 hblk8 hcap hcs8 (by omega) (by omega) (by omega)
        (by omega) (by omega) (by omega) (by omega) (by omega) (by omega) (by omega) ?_ ?_ ?_)
      · intro a9 w9 vs bs9 nn9 hd9 g9 o9 st9 hels
        have f9 : Ag (Ch X.M0 k m) a a9 := f8.trans (g9.ch (by omega) (by omega))
        have hvl := listDec_length _ _ _ _ _ hd9
        refine fin _ _ a9 w9 (.slice (some ⟨w6.heap.size, 0, none⟩) n cap) (.list (some vs)) bs9 nn9 f9 (o68.trans (o9.mono fun q _ h => by omega)) ((g9.keep _ (by unfold Ch; omega)).trans p8) rfl rfl (by rw [hsd _ hd9]; rfl) st9 fun w10 hD10 hk10 hs10 => ?_
        obtain ⟨fe, hfe⟩ := hels
        have hle9 := o9.size
        refine .inr (.inr ⟨vs, w6.heap.size, cap, rfl, by rw [hvl], by omega, by omega, fe, fun j v hv => ?_⟩)
        obtain ⟨b1, b2, b3⟩ := hfe j v hv
        exact ⟨by omega, by omega, b3.keep hD10 (fun q q1 q2 => hk10 q (by omega)) fun _ _ => World.cell?_of_block (w := w9) (hk10 _ hle6)⟩
      · intro a9 w9 hd9 g9 o9 st9
        have f9 : Ag (Ch X.M0 k m) a a9 := f8.trans (g9.ch (by omega) (by omega))
        -- the reader has failed: what is stored does not matter
        refine wp_seq (gCopy_wp (by rw [f9.size]; omega) (by rw [f9.size]; omega) fun a10 g10 v10 => ?_)
        have f10 : Ag (Ch X.M0 k m) a a10 := f9.trans (g10.mono fun j hj => by unfold Ch; omega)
        have v9 : gt a9 (k + 1) = .slice (some ⟨w6.heap.size, 0, none⟩) n cap := (g9.keep _ (by unfold Ch; omega)).trans p8
        rw [v9] at v10
        have o9' : Only (fun j => j = X.rb ∨ w.heap.size ≤ j) w w9 := o68.trans (o9.mono fun q _ h => by omega)
        have hb9 : w9.heap[b]? = w.heap[b]? := o9'.block b hbl (by omega)
        refine sinkF_wp (n := 1) ((f10.keep s (by unfold Ch; omega)).trans hs) v10 hf rfl (by simp [Value.cells, Value.oneCell']) (hb.keep hb9) hn (by omega) (by omega) (by rw [f10.size]; omega) fun a11 w11 g11 wr11 => ?_
        have f11 : Ag (Ch X.M0 k m) a a11 := f10.trans (g11.tm (by omega))
        have kb : ∀ q, q < w9.heap.size → q ≠ b → w11.heap[q]? = w9.heap[q]? := fun q q1 q2 => wr11.only.block q q1 q2
        have hle := o9'.size
        refine hQ.fail a11 w11 (.inr (by rw [hsd _ hd9]; rfl)) f11 (Only.fresh ((o9'.mono fun q _ h => by omega).trans (wr11.only.mono fun q _ h => by omega))) ?_ ?_
        · have := wr11.upd
          intro cur e hcur
          exact this cur e (hb9.trans hcur)
        · have h1 : St X a11 w9 false [] true := st9.act (k := k) (m := m) ((g10.mono fun j hj => by unfold Ch; omega : Ag (Ch X.M0 k m) a9 a10).trans (g11.tm (by omega))) h9 (by omega) (by omega)
          exact h1.world (st9.st.keep (kb _ (by omega) (by omega)) (kb _ (by omega) (by omega))) (Nat.le_refl _) (wr11.only.mono fun q _ e => by omega)
      · intro a9 w9 hd9 hdf he o9
        have o9' : Only (fun j => j = X.rb ∨ w.heap.size ≤ j) w w9 := o68.trans (o9.mono fun q _ h => by omega)
        exact hQ.ret a9 w9 (.inr (by rw [hsd _ hd9]; rfl)) hdf he (Only.fresh (o9'.mono fun q _ h => by omega)) (Upd.same (o9'.block b hbl (by omega)))
  have hlen4 := g4.only.size
  refine gNull_wp hS ver4 g4.val (by omega) (by omega) (by omega) (by rw [f4.size]; omega) (fun hB c a5 e g5 p5 => ?_) fun hB c a5 g5 => ?_
  · have f45 : Ag (Ch X.M0 k m) a4 a5 := g5.mono fun j hj => by unfold Ch; omega
    have oal : Only (fun _ => False) w4 (w4.alloc (.cells #[] e)) := ⟨rfl, rfl, rfl, by simp, fun q hq _ => Below.heap_alloc w4 _ q hq⟩
    refine rest c a5 _ _ (f4.trans f45) (g4.only.trans (oal.none _)) p5 ((g5.keep _ (by omega)).trans g4.val) (.inr ⟨_, rfl, hlen4, by simp, hB⟩) ?_
    rcases g4.comes with ⟨hbad, bs', hd, h1, h2, nn', hr⟩ | ⟨hbad, hr⟩
    · exact .inl ⟨hbad, bs', nn', hd, h1, h2, ((hst.act (f4.trans f45) h9 (by omega) (by omega)).world hr h2 (g4.only.mono fun q _ e => by omega)).none oal⟩
    · exact .inr ⟨hbad, ((hst.act (f4.trans f45) h9 (by omega) (by omega)).world hr (by simp) (g4.only.mono fun q _ e => by omega)).none oal⟩
  · have f45 : Ag (Ch X.M0 k m) a4 a5 := g5.mono fun j hj => by unfold Ch; omega
    refine rest c a5 _ none (f4.trans f45) g4.only ((g5.keep _ (by omega)).trans v4) ((g5.keep _ (by omega)).trans g4.val) (.inl ⟨rfl, hB⟩) ?_
    rcases g4.comes with ⟨hbad, bs', hd, h1, h2, nn', hr⟩ | ⟨hbad, hr⟩
    · exact .inl ⟨hbad, bs', nn', hd, h1, h2, (hst.act (f4.trans f45) h9 (by omega) (by omega)).world hr h2 (g4.only.mono fun q _ e => by omega)⟩
    · exact .inr ⟨hbad, (hst.act (f4.trans f45) h9 (by omega) (by omega)).world hr (by simp) (g4.only.mono fun q _ e => by omega)⟩
end
end Go.Proofs.YtpefipjgcpchaaaGreatDoorR.Kf

namespace Go.Proofs.YtpefipjgcpchaaaGreatDoorR.Kf
set_option linter.unusedVariables false
set_option linter.unusedSimpArgs false
open Go Go.RowKit

/-- The function F sets a part of so many cells to its defaults; the cells at ks stay. -/
def DefC (P : Program) (F sz : Nat) (ks : List Nat) : Prop := Plain P F ∧ ∀ (w : World) (b off N : Nat), Blk w b N → off + sz ≤ N →
  Calls P F #[.pointer (some ⟨b, off, none⟩)] w fun e w' => ∃ v, e = .returned v ∧ (Only (· = b) w w' ∧ Upd b off (off + sz) w w' ∧ ∀ o ∈ ks, w'.cell? ⟨b, off + o, none⟩ = w.cell? ⟨b, off + o, none⟩)
/-- How a new variable of the type T is laid. -/
def Alc (P : Program) (T : Nat) (z : Array Value) : Prop := ∀ (o : Oper) (a : Act) (w : World), o.op = .alloc T → (execOp a.eval o).run P w = .ok (.value (.pointer (some ⟨w.heap.size, 0, none⟩))) (w.alloc (.cells z T))
def nilV : Bool → Value
  | false => .slice none 0 0
  | true => .pointer none
def isNilS : Bool → Value → Bool
  | false, .slice none 0 0 => true
  | true, .pointer none => true
  | _, _ => false
theorem isNilS_eq {p : Bool} {v : Value} (h : isNilS p v = true) : v = nilV p := by
  unfold isNilS at h
  split at h
  · rfl
  · rfl
  · cases h
/-- The function F reads whether something is there. -/
def I8C (P : Program) (F : Nat) : Prop := Plain P F ∧ ∀ (D rb : Nat) (w : World) (nn : Bool) (bs : List UInt8) (bad : Bool), Rd D rb w nn bs bad → bs.length ≤ lim →
  Calls P F #[.pointer (some ⟨rb, 0, none⟩)] w fun e w' => ∃ v, e = .returned v ∧ ∃ n : Int, v = .int .i8 n ∧ Only (· = rb) w w' ∧
    ((bad = false ∧ ∃ (b : UInt8) (bs' : List UInt8), bs = b :: bs' ∧ (n = -1 ↔ b = 255) ∧ Rd D rb w' true bs' false) ∨ (n = 0 ∧ (bad = true ∨ bs = []) ∧ Rd D rb w' false [] true))

def gPres (G : Gn) (FO ti k m : Nat) (c : Code) : Code :=
  reg [⟨some m, .move (.tmp k), none⟩, ⟨some (m + 1), .binOp .neq ti (.tmp m) (.const (.int .i8 (-1))) ti, none⟩, ⟨some (m + 2), .move (.tmp (m + 1)), none⟩, ⟨some (m + 3), .call ⟨.value (.func FO), #[.tmp G.rs], #[G.rt]⟩, some (2, true)⟩, ⟨some (m + 4), .pick (.tmp (m + 2)) (.tmp (m + 3)) (.const (.bool false)), none⟩] c
def gNewS (T i PT T' s m : Nat) (c : Code) : Code :=
  reg [⟨some m, .move (.tmp s), none⟩, ⟨some (m + 1), .alloc T', none⟩, ⟨some (m + 2), .nilCheck (.tmp m), none⟩, ⟨some (m + 3), .fieldAddr T (.tmp (m + 2)) i, none⟩, ⟨none, .store PT (.tmp (m + 3)) (.tmp (m + 1)), none⟩] c
def gDefq (DF PT k m : Nat) (c : Code) : Code := reg [⟨some m, .move (.tmp k), none⟩, ⟨some (m + 1), .call ⟨.value (.func DF), #[.tmp m], #[PT]⟩, none⟩] c
/-- A part behind a pointer. -/
def gOpt (G : Gn) (FI FO DF ti T i PT T' s k m : Nat) (body : Code → Code) (c : Code) : Code :=
  .seq (gCall G FI k m (pc c [0])) (.seq (gPres G FO ti k (m + 1) (pc c [1, 0])) (.cond (.tmp (m + 5))
    (.seq (gNewS T i PT T' s (m + 6) (pc c [1, 1, 0, 0])) (.seq (gLoad T i PT s (k + 1) (m + 10) (pc c [1, 1, 0, 1, 0])) (.seq (gDefq DF PT (k + 1) (m + 14) (pc c [1, 1, 0, 1, 1, 0])) (.seq (gCopy (k + 1) (k + 2) (m + 16) (pc c [1, 1, 0, 1, 1, 1, 0])) (body (pc c [1, 1, 0, 1, 1, 1, 1])))))) .skip))

section
variable {P : Program} {Q : Exit → Act → World → Prop} {a : Act} {w w' : World} {ops : Array Oper} {rest : List Oper}
theorem wpl_val {dst : Option Tmp} {op : Op} {v : Value} {o : Oper} (hr : Runs P a w op v w') (h : wpList P ops Q rest (a.put dst v) w') : wpList P ops Q (mkOp ⟨dst, op, none⟩ o :: rest) a w := by
  refine wpList_plain rfl fun K hK => ?_
  show Oper.upon P _ a K Q _
  rw [hr (mkOp ⟨dst, op, none⟩ o) rfl]
  exact hK _ _ h
theorem runs_neq {t t2 : Nat} {x y : Operand} {k : IntKind} {p q : Int} (hx : a.eval x = .int k p) (hy : a.eval y = .int k q) : Runs P a w (.binOp .neq t x y t2) (.bool (!(p == q))) w := by
  intro o h
  simp [execOp, h, hx, hy, eqGuard_at_int, binOp_neq]
  rfl
theorem runs_pickB {c x y : Operand} {t : Bool} (hc : a.eval c = .bool t) : Runs P a w (.pick c x y) (if t = true then a.eval x else a.eval y) w := by
  intro o h
  cases t <;> simp [execOp, h, hc, asBool]
end

section
variable {X : RX} {Q : Exit → Act → World → Prop}
theorem St.ag {X : RX} {a a' : Act} {w : World} {nn : Bool} {bs : List UInt8} {bad : Bool} {S : Nat → Prop} (h : St X a w nn bs bad) (ha : Ag S a a') (hS : ∀ j, j ≤ X.b9 → ¬ S j) : St X a' w nn bs bad :=
  have h9 := X.b9l
  have hr := X.rsl
  ⟨ha.size.trans h.size, ha.defers.trans h.defers, (ha.keep 2 (hS _ (by omega))).trans h.un, (ha.keep X.G.rs (hS _ (by omega))).trans h.rd, (ha.keep 8 (hS _ (by omega))).trans h.ver,
    fun hf => (ha.keep 9 (hS _ (by omega))).trans (h.fl hf), h.st, h.lim, h.inv⟩

theorem gPres_wp {FO ti k m : Nat} {c0 : Code} (hO : OkC X.P FO) {a : Act} {w : World} {nn : Bool} {bs : List UInt8} {bad : Bool} {n : Int} (hst : St X a w nn bs bad) (hk : gt a k = .int .i8 n) (hkm : k < m) (h9 : 9 ≤ X.b9 ∧ X.b9 < m) (hN : m + 5 ≤ X.N)
    (h : ∀ a' w', Ag (fun j => m ≤ j ∧ j < m + 5) a a' → Only (fun _ => False) w w' → gt a' (m + 4) = .bool (!(n == -1) && !bad) → Q .normal a' w') : (gPres X.G FO ti k m c0).wp X.P Q a w := by
  unfold gPres reg
  obtain ⟨o1, os1, e1⟩ := mkOps_cons (⟨some m, .move (.tmp k), none⟩ : Core) [⟨some (m + 1), .binOp .neq ti (.tmp m) (.const (.int .i8 (-1))) ti, none⟩, ⟨some (m + 2), .move (.tmp (m + 1)), none⟩, ⟨some (m + 3), .call ⟨.value (.func FO), #[.tmp X.G.rs], #[X.G.rt]⟩, some (2, true)⟩, ⟨some (m + 4), .pick (.tmp (m + 2)) (.tmp (m + 3)) (.const (.bool false)), none⟩] (Code.ops0 c0)
  obtain ⟨o2, os2, e2⟩ := mkOps_cons (⟨some (m + 1), .binOp .neq ti (.tmp m) (.const (.int .i8 (-1))) ti, none⟩ : Core) [⟨some (m + 2), .move (.tmp (m + 1)), none⟩, ⟨some (m + 3), .call ⟨.value (.func FO), #[.tmp X.G.rs], #[X.G.rt]⟩, some (2, true)⟩, ⟨some (m + 4), .pick (.tmp (m + 2)) (.tmp (m + 3)) (.const (.bool false)), none⟩] os1
  obtain ⟨o3, os3, e3⟩ := mkOps_cons (⟨some (m + 2), .move (.tmp (m + 1)), none⟩ : Core) [⟨some (m + 3), .call ⟨.value (.func FO), #[.tmp X.G.rs], #[X.G.rt]⟩, some (2, true)⟩, ⟨some (m + 4), .pick (.tmp (m + 2)) (.tmp (m + 3)) (.const (.bool false)), none⟩] os2
  obtain ⟨o4, os4, e4⟩ := mkOps_cons (⟨some (m + 3), .call ⟨.value (.func FO), #[.tmp X.G.rs], #[X.G.rt]⟩, some (2, true)⟩ : Core) [⟨some (m + 4), .pick (.tmp (m + 2)) (.tmp (m + 3)) (.const (.bool false)), none⟩] os3
  obtain ⟨o5, os5, e5⟩ := mkOps_cons (⟨some (m + 4), .pick (.tmp (m + 2)) (.tmp (m + 3)) (.const (.bool false)), none⟩ : Core) [] os4
  rw [e1, e2, e3, e4, e5]
  have e6 : mkOps [] os5 = [] := rfl
  rw [e6]
  refine wp_region_list ?_
  simp only [List.toList_toArray]
  generalize hall : [mkOp ⟨some m, .move (.tmp k), none⟩ o1, mkOp ⟨some (m + 1), .binOp .neq ti (.tmp m) (.const (.int .i8 (-1))) ti, none⟩ o2, mkOp ⟨some (m + 2), .move (.tmp (m + 1)), none⟩ o3, mkOp ⟨some (m + 3), .call ⟨.value (.func FO), #[.tmp X.G.rs], #[X.G.rt]⟩, some (2, true)⟩ o4, mkOp ⟨some (m + 4), .pick (.tmp (m + 2)) (.tmp (m + 3)) (.const (.bool false)), none⟩ o5].toArray = all
  have h2 : (all[2]?).bind (·.dst) = some (m + 2) := by rw [← hall]; rfl
  clear hall e1 e2 e3 e4 e5
  have hsz := hst.size
  refine wpl_val (runs_move _) ?_
  have z0 : m < a.tmps.size := by omega
  rw [evT, hk]
  have g1 := (Ag.refl (fun j => m ≤ j ∧ j < m + 5) a).put (d := m) (by omega) z0 (.int .i8 n)
  have v1 : gt (a.put (some m) (.int .i8 n)) m = .int .i8 n := by rw [gt_put z0, if_pos rfl]
  generalize a.put (some m) (.int .i8 n) = a1 at g1 v1
  refine wpl_val (runs_neq (k := .i8) (p := n) (q := -1) v1 rfl) ?_
  have z1 : m + 1 < a1.tmps.size := by rw [g1.size]; omega
  have g2 := g1.put (d := m + 1) (by omega) z1 (.bool (!(n == -1)))
  have v2 : gt (a1.put (some (m + 1)) (.bool (!(n == -1)))) (m + 1) = .bool (!(n == -1)) := by rw [gt_put z1, if_pos rfl]
  generalize a1.put (some (m + 1)) (.bool (!(n == -1))) = a2 at g2 v2
  refine wpl_val (runs_move _) ?_
  rw [evT, v2]
  have z2 : m + 2 < a2.tmps.size := by rw [g2.size]; omega
  have g3 := g2.put (d := m + 2) (by omega) z2 (.bool (!(n == -1)))
  have v3 : gt (a2.put (some (m + 2)) (.bool (!(n == -1)))) (m + 2) = .bool (!(n == -1)) := by rw [gt_put z2, if_pos rfl]
  have z3' : m + 2 < (a2.put (some (m + 2)) (.bool (!(n == -1)))).tmps.size := by rw [size_put]; exact z2
  generalize a2.put (some (m + 2)) (.bool (!(n == -1))) = a3 at g3 v3 z3'
  have z3 : m + 3 < a3.tmps.size := by rw [g3.size]; omega
  have hy : yielded all a3.tmps 2 = some (!(n == -1)) := by
    unfold yielded
    rw [h2]
    have : a3.tmps[m + 2]? = some (.bool (!(n == -1))) := by
      have hg : a3.tmps.getD (m + 2) undef = .bool (!(n == -1)) := v3
      rw [Array.getD_eq_getD_getElem?, Array.getElem?_eq_getElem z3'] at hg
      rw [Array.getElem?_eq_getElem z3']
      exact congrArg some hg
    simp [this]
  have rest : ∀ v (w' : World), (n ≠ -1 → v = .bool (!bad)) → Only (fun _ => False) w w' → wpList X.P all Q [mkOp ⟨some (m + 4), .pick (.tmp (m + 2)) (.tmp (m + 3)) (.const (.bool false)), none⟩ o5] (a3.put (some (m + 3)) v) w' := by
    intro v w' hv ho
    have g4 := g3.put (d := m + 3) (by omega) z3 v
    have v4 : gt (a3.put (some (m + 3)) v) (m + 3) = v := by rw [gt_put z3, if_pos rfl]
    have v4b : gt (a3.put (some (m + 3)) v) (m + 2) = .bool (!(n == -1)) := by rw [gt_put z3, if_neg (by omega)]; exact v3
    generalize a3.put (some (m + 3)) v = a4 at g4 v4 v4b
    refine wpl_val (runs_pickB v4b) (wpList_nil ?_)
    have z4 : m + 4 < a4.tmps.size := by rw [g4.size]; omega
    refine h _ w' (g4.put (d := m + 4) (by omega) z4 _) ho ?_
    rw [gt_put z4, if_pos rfl]
    by_cases hn : n = -1
    · subst hn
      rfl
    · have e : (n == -1) = false := by simpa using hn
      rw [e]
      simp only [Bool.not_false, if_true, Bool.true_and]
      rw [evT, v4, hv hn]
  refine wpList_step fun K hK => ?_
  have hw : Region.wanted (mkOp ⟨some (m + 3), .call ⟨.value (.func FO), #[.tmp X.G.rs], #[X.G.rt]⟩, some (2, true)⟩ o4) (yielded all a3.tmps) = !(n == -1) := by
    show (yielded all a3.tmps 2 == some true) = _
    rw [hy]; cases (!(n == -1)) <;> rfl
  rw [hw]
  by_cases hn : n = -1
  · subst hn
    rw [if_neg (by decide)]
    exact hK _ _ (rest undef w (fun h => absurd rfl h) (Only.refl _ _))
  · have e : (n == -1) = false := by simpa using hn
    rw [e, if_pos (by decide)]
    show Oper.upon X.P _ a3 K Q _
    have hr : (execOp a3.eval (mkOp ⟨some (m + 3), .call ⟨.value (.func FO), #[.tmp X.G.rs], #[X.G.rt]⟩, some (2, true)⟩ o4)).run X.P w = .ok (.enter FO (#[Operand.tmp X.G.rs].map a3.eval)) w := by
      simp [execOp, mkOp, resolve, Act.eval, Deferred.ofValue, invoke, hO.1.run]
    rw [hr]
    show Calls X.P FO _ w _
    have ea : (#[Operand.tmp X.G.rs] : Array Operand).map a3.eval = #[.pointer (some ⟨X.rb, 0, none⟩)] := by
      have hr := X.rsl
      have : gt a3 X.G.rs = _ := (g3.keep X.G.rs (by omega)).trans hst.rd
      simp only [gt] at this
      simp [Act.eval, this]
    rw [ea]
    refine (hO.2 X.D X.rb w nn bs bad hst.st).mono ?_
    rintro _ w' ⟨v, rfl, rfl, ho⟩
    exact hK _ _ (rest _ w' (fun _ => rfl) ho)

theorem gNewS_wp {P : Program} {Q : Exit → Act → World → Prop} {T i o PT T' s m b off N : Nat} {c0 : Code} {z : Array Value} (hA : Alc P T' z) {a : Act} {w : World} (hs : gt a s = .pointer (some ⟨b, off, none⟩)) (hf : FieldAt P T i o PT 1) (hb : Blk w b N) (hn : off + o + 1 ≤ N) (hsm : s < m) (hN : m + 4 ≤ a.tmps.size)
    (h : ∀ a' w', Ag (fun j => m ≤ j ∧ j < m + 4) a a' → Wr b (off + o) [.pointer (some ⟨w.heap.size, 0, none⟩)] (w.alloc (.cells z T')) w' → Q .normal a' w') : (gNewS T i PT T' s m c0).wp P Q a w := by
  refine wp_reg (wpC_val (runs_move _) ?_)
  have z0 : m < a.tmps.size := by omega
  rw [evT, hs]
  have g1 := (Ag.refl (fun j => m ≤ j ∧ j < m + 4) a).put (d := m) (by omega) z0 (.pointer (some ⟨b, off, none⟩))
  have v1 : gt (a.put (some m) (.pointer (some ⟨b, off, none⟩))) m = .pointer (some ⟨b, off, none⟩) := by rw [gt_put z0, if_pos rfl]
  generalize a.put (some m) (.pointer (some ⟨b, off, none⟩)) = a1 at g1 v1
  refine wpC_val (v := .pointer (some ⟨w.heap.size, 0, none⟩)) (w' := w.alloc (.cells z T')) (fun o ho => hA o _ _ ho) ?_
  have z1 : m + 1 < a1.tmps.size := by rw [g1.size]; omega
  have g2 := g1.put (d := m + 1) (by omega) z1 (.pointer (some ⟨w.heap.size, 0, none⟩))
  have v2 : gt (a1.put (some (m + 1)) (.pointer (some ⟨w.heap.size, 0, none⟩))) (m + 1) = .pointer (some ⟨w.heap.size, 0, none⟩) := by rw [gt_put z1, if_pos rfl]
  have v2b : gt (a1.put (some (m + 1)) (.pointer (some ⟨w.heap.size, 0, none⟩))) m = .pointer (some ⟨b, off, none⟩) := by rw [gt_put z1, if_neg (by omega)]; exact v1
  generalize a1.put (some (m + 1)) (.pointer (some ⟨w.heap.size, 0, none⟩)) = a2 at g2 v2 v2b
  refine wpC_val (runs_nilCheck (p := ⟨b, off, none⟩) v2b) ?_
  have z2 : m + 2 < a2.tmps.size := by rw [g2.size]; omega
  have g3 := g2.put (d := m + 2) (by omega) z2 (.pointer (some ⟨b, off, none⟩))
  have v3 : gt (a2.put (some (m + 2)) (.pointer (some ⟨b, off, none⟩))) (m + 2) = .pointer (some ⟨b, off, none⟩) := by rw [gt_put z2, if_pos rfl]
  have v3b : gt (a2.put (some (m + 2)) (.pointer (some ⟨b, off, none⟩))) (m + 1) = .pointer (some ⟨w.heap.size, 0, none⟩) := by rw [gt_put z2, if_neg (by omega)]; exact v2
  generalize a2.put (some (m + 2)) (.pointer (some ⟨b, off, none⟩)) = a3 at g3 v3 v3b
  refine wpC_val (runs_fieldAddr hf (p := ⟨b, off, none⟩) v3) ?_
  rw [Addr.add_lit]
  have z3 : m + 3 < a3.tmps.size := by rw [g3.size]; omega
  have g4 := g3.put (d := m + 3) (by omega) z3 (.pointer (some ⟨b, off + o, none⟩))
  have v4 : gt (a3.put (some (m + 3)) (.pointer (some ⟨b, off + o, none⟩))) (m + 3) = .pointer (some ⟨b, off + o, none⟩) := by rw [gt_put z3, if_pos rfl]
  have v4b : gt (a3.put (some (m + 3)) (.pointer (some ⟨b, off + o, none⟩))) (m + 1) = .pointer (some ⟨w.heap.size, 0, none⟩) := by rw [gt_put z3, if_neg (by omega)]; exact v3b
  generalize a3.put (some (m + 3)) (.pointer (some ⟨b, off + o, none⟩)) = a4 at g4 v4 v4b
  have hb2 : Blk (w.alloc (.cells z T')) b N := hb.keep (by show (w.heap.push _)[b]? = _; rw [Array.getElem?_push, if_neg (by have := hb.lt; omega)])
  obtain ⟨w', hr, hw⟩ := runs_storeN (P := P) (a := a4) (w := w.alloc (.cells z T')) (u := PT) (x := .tmp (m + 3)) (y := .tmp (m + 1)) (b := b) (o := off + o) (v := .pointer (some ⟨w.heap.size, 0, none⟩)) v4 v4b (by obtain ⟨inf, hi, hz⟩ := hf.sz; exact ⟨inf, hi, hz.trans rfl⟩) (by simp [Value.cells, Value.oneCell']) hb2 (by simpa [Value.cells] using hn)
  exact wpC_skip hr (wpC_nil (h _ w' g4 (by simpa [Value.cells] using hw)))

theorem gDefq_wp {P : Program} {Q : Exit → Act → World → Prop} {DF PT k m q sz : Nat} {ks : List Nat} {c0 : Code} (hD : DefC P DF sz ks) {a : Act} {w : World} (hk : gt a k = .pointer (some ⟨q, 0, none⟩)) (hb : Blk w q sz) (hkm : k < m) (hN : m + 2 ≤ a.tmps.size)
    (h : ∀ a' w', Ag (fun j => m ≤ j ∧ j < m + 2) a a' → Only (· = q) w w' → Upd q 0 sz w w' → (∀ o ∈ ks, w'.cell? ⟨q, o, none⟩ = w.cell? ⟨q, o, none⟩) → Q .normal a' w') : (gDefq DF PT k m c0).wp P Q a w := by
  refine wp_reg (wpC_val (runs_move _) ?_)
  have z0 : m < a.tmps.size := by omega
  rw [evT, hk]
  have g1 := (Ag.refl (fun j => m ≤ j ∧ j < m + 2) a).put (d := m) (by omega) z0 (.pointer (some ⟨q, 0, none⟩))
  have v1 : gt (a.put (some m) (.pointer (some ⟨q, 0, none⟩))) m = .pointer (some ⟨q, 0, none⟩) := by rw [gt_put z0, if_pos rfl]
  generalize a.put (some m) (.pointer (some ⟨q, 0, none⟩)) = a1 at g1 v1
  have harg : (#[Operand.tmp m] : Array Operand).map a1.eval = #[.pointer (some ⟨q, 0, none⟩)] := by
    simp only [gt] at v1
    simp [Act.eval, v1]
  refine wpC_call (R := fun _ w' => Only (· = q) w w' ∧ Upd q 0 (0 + sz) w w' ∧ ∀ o ∈ ks, w'.cell? ⟨q, 0 + o, none⟩ = w.cell? ⟨q, 0 + o, none⟩) hD.1 (by rw [harg]; exact hD.2 w q 0 sz hb (by omega)) ?_
  rintro v w' ⟨o1, u1, k1⟩
  have z1 : m + 1 < a1.tmps.size := by rw [g1.size]; omega
  refine wpC_nil (h _ w' (g1.put (d := m + 1) (by omega) z1 v) o1 (by simpa using u1) fun o ho => by simpa using k1 o ho)

theorem gDefo_wp {P : Program} {Q : Exit → Act → World → Prop} {DF PT k m q off sz N : Nat} {ks : List Nat} {c0 : Code} (hD : DefC P DF sz ks) {a : Act} {w : World} (hk : gt a k = .pointer (some ⟨q, off, none⟩)) (hb : Blk w q N) (hn : off + sz ≤ N) (hkm : k < m) (hN : m + 2 ≤ a.tmps.size)
    (h : ∀ a' w', Ag (fun j => m ≤ j ∧ j < m + 2) a a' → Only (· = q) w w' → Upd q off (off + sz) w w' → (∀ o ∈ ks, w'.cell? ⟨q, off + o, none⟩ = w.cell? ⟨q, off + o, none⟩) → Q .normal a' w') : (gDefq DF PT k m c0).wp P Q a w := by
  refine wp_reg (wpC_val (runs_move _) ?_)
  have z0 : m < a.tmps.size := by omega
  rw [evT, hk]
  have g1 := (Ag.refl (fun j => m ≤ j ∧ j < m + 2) a).put (d := m) (by omega) z0 (.pointer (some ⟨q, off, none⟩))
  have v1 : gt (a.put (some m) (.pointer (some ⟨q, off, none⟩))) m = .pointer (some ⟨q, off, none⟩) := by rw [gt_put z0, if_pos rfl]
  generalize a.put (some m) (.pointer (some ⟨q, off, none⟩)) = a1 at g1 v1
  have harg : (#[Operand.tmp m] : Array Operand).map a1.eval = #[.pointer (some ⟨q, off, none⟩)] := by
    simp only [gt] at v1
    simp [Act.eval, v1]
  refine wpC_call (R := fun _ w' => Only (· = q) w w' ∧ Upd q off (off + sz) w w' ∧ ∀ o ∈ ks, w'.cell? ⟨q, off + o, none⟩ = w.cell? ⟨q, off + o, none⟩) hD.1 (by rw [harg]; exact hD.2 w q off N hb hn) ?_
  rintro v w' ⟨o1, u1, k1⟩
  have z1 : m + 1 < a1.tmps.size := by rw [g1.size]; omega
  exact wpC_nil (h _ w' (g1.put (d := m + 1) (by omega) z1 v) o1 u1 k1)

theorem gAdr_wp {P : Program} {Q : Exit → Act → World → Prop} {T i o u n s k m b off : Nat} {c0 : Code} {a : Act} {w : World} (hs : gt a s = .pointer (some ⟨b, off, none⟩)) (hf : FieldAt P T i o u n) (hkm : k < m) (hN : m + 3 ≤ a.tmps.size)
    (h : ∀ a', Ag (fun j => j = k ∨ (m ≤ j ∧ j < m + 3)) a a' → gt a' k = .pointer (some ⟨b, off + o, none⟩) → Q .normal a' w) :
    (reg [⟨some m, .move (.tmp s), none⟩, ⟨some (m + 1), .nilCheck (.tmp m), none⟩, ⟨some (m + 2), .fieldAddr T (.tmp (m + 1)) i, none⟩, ⟨some k, .assign (.tmp (m + 2)), none⟩] c0).wp P Q a w := by
  refine wp_reg (wpC_val (runs_move _) ?_)
  have z0 : m < a.tmps.size := by omega
  rw [evT, hs]
  have g1 := (Ag.refl (fun j => j = k ∨ (m ≤ j ∧ j < m + 3)) a).put (d := m) (by omega) z0 (.pointer (some ⟨b, off, none⟩))
  have e1 : gt (a.put (some m) (.pointer (some ⟨b, off, none⟩))) m = .pointer (some ⟨b, off, none⟩) := by rw [gt_put z0, if_pos rfl]
  generalize a.put (some m) (.pointer (some ⟨b, off, none⟩)) = a1 at g1 e1
  refine wpC_val (runs_nilCheck (p := ⟨b, off, none⟩) e1) ?_
  have z1 : m + 1 < a1.tmps.size := by rw [g1.size]; omega
  have g2 := g1.put (d := m + 1) (by omega) z1 (.pointer (some ⟨b, off, none⟩))
  have e2 : gt (a1.put (some (m + 1)) (.pointer (some ⟨b, off, none⟩))) (m + 1) = .pointer (some ⟨b, off, none⟩) := by rw [gt_put z1, if_pos rfl]
  generalize a1.put (some (m + 1)) (.pointer (some ⟨b, off, none⟩)) = a2 at g2 e2
  refine wpC_val (runs_fieldAddr hf (p := ⟨b, off, none⟩) e2) ?_
  rw [Addr.add_lit]
  have z2 : m + 2 < a2.tmps.size := by rw [g2.size]; omega
  have g3 := g2.put (d := m + 2) (by omega) z2 (.pointer (some ⟨b, off + o, none⟩))
  have e3 : gt (a2.put (some (m + 2)) (.pointer (some ⟨b, off + o, none⟩))) (m + 2) = .pointer (some ⟨b, off + o, none⟩) := by rw [gt_put z2, if_pos rfl]
  generalize a2.put (some (m + 2)) (.pointer (some ⟨b, off + o, none⟩)) = a3 at g3 e3
  refine wpC_val (runs_assign _) (wpC_nil ?_)
  rw [evT, e3]
  have z3 : k < a3.tmps.size := by rw [g3.size]; omega
  exact h _ (g3.put (d := k) (by omega) z3 _) (by rw [gt_put z3, if_pos rfl])

theorem gOpt_reads {FI FO DF ti T i o PT T' s k m b off N sz : Nat} {z : Array Value} {ks : List (Nat × Bool)} {e : M} {body : Code → Code} {c0 : Code} {a : Act} {w : World} {nn : Bool} {bs : List UInt8} {bad : Bool} (hI : I8C X.P FI) (hO : OkC X.P FO) (hD : DefC X.P DF sz (ks.map (·.1))) (hA : Alc X.P T' z) (hz : z.size = sz)
    (hzs : ∀ q ∈ ks, ∃ v, z[q.1]? = some v ∧ isNilS q.2 v = true) (hst : St X a w nn bs bad) (hs : gt a s = .pointer (some ⟨b, off, none⟩)) (hf : FieldAt X.P T i o PT 1) (hone : One X.P PT) (hb : Blk w b N) (hn : off + o + 1 ≤ N) (hnil : w.cell? ⟨b, off + o, none⟩ = some (.pointer none)) (hbr : b ≠ X.rb) (hbD : (X.L ≤ b ∧ b ≠ X.D))
    (h9 : 9 ≤ X.b9 ∧ X.b9 < k) (hsk : s < k) (hk : k + 3 ≤ X.M0) (hm : X.M0 ≤ m) (hN : m + 17 ≤ X.N)
    (hbody : ∀ q, q ≠ X.rb → (X.L ≤ q ∧ q ≠ X.D) → ∀ c a1 w1 nn1 bs1, St X a1 w1 nn1 bs1 false → gt a1 (k + 2) = .pointer (some ⟨q, 0, none⟩) → Blk w1 q sz → (∀ p ∈ ks, w1.cell? ⟨q, 0 + p.1, none⟩ = some (nilV p.2)) → Reads X (body c) (dec e.w) (fun w' lo hi x => Holds X.D e w' lo hi q 0 x) (k + 3) (m + 17) q 0 sz a1 w1 bs1 false) :
    Reads X (gOpt X.G FI FO DF ti T i PT T' s k m body c0) (dec (M.opt sz e).w) (fun w' lo hi x => Holds X.D (.opt sz e) w' lo hi b (off + o) x) k m b (off + o) (off + o + 1) a w bs bad := by
  intro Q hQ
  have hrb := hst.rb_gt
  have hrl := hst.st.lt
  have hbl := hb.lt
  have hsz := hst.size
  -- is it there?
  refine wp_seq (wp_reg (wpC_call (R := fun v w' => ∃ n : Int, v = .int .i8 n ∧ Only (· = X.rb) w w' ∧
    ((bad = false ∧ ∃ (b : UInt8) (bs' : List UInt8), bs = b :: bs' ∧ (n = -1 ↔ b = 255) ∧ Rd X.D X.rb w' true bs' false) ∨ (n = 0 ∧ (bad = true ∨ bs = []) ∧ Rd X.D X.rb w' false [] true))) hI.1 ?_ ?_))
  · have e : (#[Operand.tmp X.G.rs] : Array Operand).map a.eval = #[.pointer (some ⟨X.rb, 0, none⟩)] := by
      have := hst.rd
      simp only [gt] at this
      simp [Act.eval, this]
    rw [e]
    exact hI.2 X.D X.rb w nn bs bad hst.st hst.lim
  rintro v w1 ⟨n, rfl, o1, c1⟩
  have z0 : m < a.tmps.size := by omega
  have g1 : Ag (Ch X.M0 k m) a (a.put (some m) (.int .i8 n)) := (Ag.refl _ _).put (by unfold Ch; omega) z0 _
  have v1 : gt (a.put (some m) (.int .i8 n)) m = .int .i8 n := by rw [gt_put z0, if_pos rfl]
  generalize a.put (some m) (.int .i8 n) = a1 at g1 v1
  refine wpC_val (runs_assign _) (wpC_nil ?_)
  rw [evT, v1]
  have z1 : k < a1.tmps.size := by rw [g1.size]; omega
  have g2 := g1.put (d := k) (by unfold Ch; omega) z1 (.int .i8 n)
  have v2 : gt (a1.put (some k) (.int .i8 n)) k = .int .i8 n := by rw [gt_put z1, if_pos rfl]
  generalize a1.put (some k) (.int .i8 n) = a2 at g2 v2
  have oL : Only (fun j => X.L ≤ j) w w1 := o1.mono fun q _ e => by subst e; exact hrb.2
  have hb1 : Blk w1 b N := hb.keep (o1.block b hbl hbr)
  have st2 : ∀ {nn' : Bool} {bs' : List UInt8} {bad' : Bool}, Rd X.D X.rb w1 nn' bs' bad' → bs'.length ≤ bs.length → St X a2 w1 nn' bs' bad' := fun hr hl => (hst.act g2 h9 (by omega) (by omega)).world hr hl oL
  have s2 : gt a2 s = .pointer (some ⟨b, off, none⟩) := (g2.keep s (by unfold Ch; omega)).trans hs
  have hO1 : Only (fun j => j = X.rb ∨ j = b) w w1 := o1.mono fun _ _ h => .inl h
  have hU1 : Upd b (off + o) (off + o + 1) w w1 := Upd.same (o1.block b hbl hbr)
  -- not there, or nothing was read
  have hskip : ∀ {nn' : Bool} {bs' : List UInt8} {bad' : Bool}, St X a2 w1 nn' bs' bad' → (!(n == -1) && !bad') = false → (∀ a3 w3, Ag (Ch X.M0 k m) a a3 → Only (fun _ => False) w1 w3 → St X a3 w3 nn' bs' bad' → Q .normal a3 w3) →
      (Code.seq (gPres X.G FO ti k (m + 1) (pc c0 [1, 0])) (.cond (.tmp (m + 5))
    (.seq (gNewS T i PT T' s (m + 6) (pc c0 [1, 1, 0, 0])) (.seq (gLoad T i PT s (k + 1) (m + 10) (pc c0 [1, 1, 0, 1, 0])) (.seq (gDefq DF PT (k + 1) (m + 14) (pc c0 [1, 1, 0, 1, 1, 0])) (.seq (gCopy (k + 1) (k + 2) (m + 16) (pc c0 [1, 1, 0, 1, 1, 1, 0])) (body (pc c0 [1, 1, 0, 1, 1, 1, 1])))))) .skip)).wp X.P Q a2 w1 := by
    intro nn' bs' bad' hs2 ht hq
    refine wp_seq (gPres_wp hO hs2 v2 (by omega) (by omega) (by omega) fun a3 w3 g3 o3 v3 => ?_)
    rw [ht] at v3
    refine wp_cond_false v3 (wp_skip (hq a3 w3 (g2.trans (g3.mono fun j hj => by unfold Ch; omega)) o3 ((hs2.ag g3 (fun j hj => by omega)).none o3)))
  rcases c1 with ⟨hbad, b0, bs', hbs, hn1, hr⟩ | ⟨hn0, hbad, hr⟩
  · by_cases hnn : n = -1
    · have hb0 : b0 = 255 := hn1.1 hnn
      have e0 : (n == -1) = true := by simpa using hnn
      have hd : dec (M.opt sz e).w bs = some (.opt none, bs') := by rw [hbs]; simp only [M.w, dec]; rw [if_pos hb0]
      refine hskip (st2 hr (by rw [hbs]; simp)) (by rw [e0]; rfl) fun a3 w3 g3 o3 st3 => ?_
      have o13 : Only (fun j => j = X.rb ∨ j = b) w w3 := hO1.trans (o3.none _)
      refine hQ.good a3 w3 (.opt none) bs' true hbad hd g3 o13 (hU1.trans (Upd.same (o3.block b hb1.lt id))) st3 ⟨o13.size, [.pointer none], ?_, .inl ⟨rfl, rfl⟩⟩
      intro j u hu
      match j, hu with
      | 0, hu =>
        simp at hu; subst hu
        rw [Nat.add_zero]
        exact (World.cell?_of_block (w := w1) (o3.block b hb1.lt id)).trans ((World.cell?_of_block (w := w) (o1.block b hbl hbr)).trans hnil)
      | j + 1, hu => simp at hu
    · have hb0 : ¬ b0 = 255 := fun h => hnn (hn1.2 h)
      have e0 : (n == -1) = false := by simpa using hnn
      have hdn : dec e.w bs' = none → dec (M.opt sz e).w bs = none := fun h => by rw [hbs]; simp only [M.w, dec]; rw [if_neg hb0, h]
      have hds : ∀ v l, dec e.w bs' = some (v, l) → dec (M.opt sz e).w bs = some (.opt (some v), l) := fun v l h => by rw [hbs]; simp only [M.w, dec]; rw [if_neg hb0, h]
      have hs2 := st2 hr (by rw [hbs]; simp)
      refine wp_seq (gPres_wp hO hs2 v2 (by omega) (by omega) (by omega) fun a3 w3 g3 o3 v3 => ?_)
      rw [e0] at v3
      have f3 : Ag (Ch X.M0 k m) a a3 := g2.trans (g3.mono fun j hj => by unfold Ch; omega)
      have st3 := (hs2.ag g3 (fun j hj => by omega)).none o3
      have hb3 : Blk w3 b N := hb1.keep (o3.block b hb1.lt id)
      have s3 : gt a3 s = .pointer (some ⟨b, off, none⟩) := (f3.keep s (by unfold Ch; omega)).trans hs
      have sz3 := st3.size
      have hl1 := o1.size
      have hl3 := o3.size
      refine wp_cond_true v3 (wp_seq (gNewS_wp hA s3 hf hb3 hn (by omega) (by omega) fun a4 w4 g4 wr4 => ?_))
      have f4 : Ag (Ch X.M0 k m) a a4 := f3.trans (g4.mono fun j hj => by unfold Ch; omega)
      have hs4 : w4.heap.size = w3.heap.size + 1 := by rw [wr4.same]; simp
      have k4 : ∀ j, j < w3.heap.size → j ≠ b → w4.heap[j]? = w3.heap[j]? := fun j hj hjb => (wr4.only.block j (by simp; omega) hjb).trans (by show (w3.heap.push _)[j]? = _; rw [Array.getElem?_push, if_neg (by omega)])
      have o34 : Only (fun j => j = b) w3 w4 := ⟨wr4.only.os, wr4.only.tape, wr4.only.output, by omega, k4⟩
      have hq4 : w4.heap[w3.heap.size]? = some (.cells z T') := (wr4.only.block w3.heap.size (by simp) (by have := hb3.lt; omega)).trans (by show (w3.heap.push _)[w3.heap.size]? = _; simp)
      have hrb3 : X.rb < w3.heap.size := by omega
      have hB3 := hb3.lt
      have st4 : St X a4 w4 true bs' false := (st3.ag g4 (fun j hj => by omega)).world (st3.st.keep (k4 _ (by omega) (by omega)) (k4 _ (by omega) (by omega))) (Nat.le_refl _) (o34.mono fun q _ e => by omega)
      have s4 : gt a4 s = .pointer (some ⟨b, off, none⟩) := (f4.keep s (by unfold Ch; omega)).trans hs
      have c4 : w4.cell? ⟨b, off + o, none⟩ = some (.pointer (some ⟨w3.heap.size, 0, none⟩)) := by have := wr4.cells 0 _ rfl; simpa using this
      have sz4 := st4.size
      refine wp_seq (gLoad_wp s4 hf hone c4 (by omega) (by omega) fun a5 g5 v5 => ?_)
      have f5 : Ag (Ch X.M0 k m) a a5 := f4.trans (g5.mono fun j hj => by unfold Ch; omega)
      have st5 : St X a5 w4 true bs' false := st4.ag g5 (fun j hj => by omega)
      have hblk4 : Blk w4 w3.heap.size sz := ⟨z, T', hq4, hz⟩
      have sz5 := st5.size
      refine wp_seq (gDefq_wp hD v5 hblk4 (by omega) (by omega) fun a6 w6 g6 o6 u6 k6 => ?_)
      have f6 : Ag (Ch X.M0 k m) a a6 := f5.trans (g6.mono fun j hj => by unfold Ch; omega)
      have st6 : St X a6 w6 true bs' false := (st5.ag g6 (fun j hj => by omega)).world (st5.st.keep (o6.block _ (by omega) (by omega)) (o6.block _ (by omega) (by omega))) (Nat.le_refl _) (o6.mono fun q _ e => by omega)
      have v6 : gt a6 (k + 1) = .pointer (some ⟨w3.heap.size, 0, none⟩) := (g6.keep _ (by omega)).trans v5
      have sz6 := st6.size
      refine wp_seq (gCopy_wp (by omega) (by omega) fun a7 g7 v7 => ?_)
      rw [v6] at v7
      have f7 : Ag (Ch X.M0 k m) a a7 := f6.trans (g7.mono fun j hj => by unfold Ch; omega)
      have st7 : St X a7 w6 true bs' false := st6.ag g7 (fun j hj => by omega)
      have hl6 := o6.size
      have o16 : Only (fun j => j = X.rb ∨ j = b) w w6 := ⟨o6.os.trans (o34.os.trans (o3.os.trans o1.os)), o6.tape.trans (o34.tape.trans (o3.tape.trans o1.tape)), o6.output.trans (o34.output.trans (o3.output.trans o1.output)), by omega,
        fun j hj hne => (o6.block j (by omega) (by omega)).trans ((o34.block j (by omega) (fun e => hne (.inr e))).trans ((o3.block j (by omega) id).trans (o1.block j hj (fun e => hne (.inl e)))))⟩
      have ha3 : (w3.alloc (.cells z T')).heap[b]? = w3.heap[b]? := by show (w3.heap.push _)[b]? = _; rw [Array.getElem?_push, if_neg (by omega)]
      have hU4 : Upd b (off + o) (off + o + 1) w w4 := (hU1.trans (Upd.same (o3.block b hb1.lt id))).trans (fun cur e hc => wr4.upd cur e (ha3.trans hc))
      have hU6 : Upd b (off + o) (off + o + 1) w w6 := hU4.trans (Upd.same (o6.block b (by omega) (by omega)))
      have hL3 : X.L ≤ w3.heap.size := by omega
      have hx : ∀ w8, Only (fun j => j = X.rb ∨ j = w3.heap.size) w6 w8 → Only (fun j => j = X.rb ∨ j = b) w w8 ∧ Upd b (off + o) (off + o + 1) w w8 := by
        intro w8 p4
        refine ⟨⟨p4.os.trans o16.os, p4.tape.trans o16.tape, p4.output.trans o16.output, Nat.le_trans o16.size p4.size, fun j hj hne => (p4.block j (by omega) ?_).trans (o16.block j hj hne)⟩, hU6.trans (Upd.same (p4.block b (by omega) ?_))⟩
        · rintro (h | h)
          · exact hne (.inl h)
          · omega
        · rintro (h | h)
          · exact hbr h
          · omega
      refine hbody w3.heap.size (by omega) ⟨hL3, by omega⟩ _ a7 w6 true bs' st7 v7 (u6.blk hblk4) (fun p hp => ?_) Q ⟨?_, ?_, ?_⟩
      · obtain ⟨v, hv, hnl⟩ := hzs p hp
        rw [Nat.zero_add, k6 p.1 (List.mem_map_of_mem hp), ← isNilS_eq hnl]
        simp [World.cell?, hq4, hv]
      · intro a8 w8 x bs2 nn2 _ p2 p3 p4 p5 p6 p7
        obtain ⟨o18, u18⟩ := hx w8 p4
        refine hQ.good a8 w8 (.opt (some x)) bs2 nn2 hbad (hds _ _ p2) (f7.trans (p3.ch (by omega) (by omega))) o18 u18 p6 ⟨o18.size, [.pointer (some ⟨w3.heap.size, 0, none⟩)], ?_, .inr ⟨x, w3.heap.size, rfl, rfl, by omega, by have := p4.size; omega, p7.wider (by omega) (Nat.le_refl _)⟩⟩
        intro j u hu
        match j, hu with
        | 0, hu =>
          simp at hu; subst hu
          rw [Nat.add_zero]
          refine (World.cell?_of_block (w := w6) (p4.block b (by omega) ?_)).trans ((World.cell?_of_block (w := w4) (o6.block b (by omega) (by omega))).trans c4)
          rintro (h | h)
          · exact hbr h
          · omega
        | j + 1, hu => simp at hu
      · intro a8 w8 p1 p2 p3 p4 p5
        obtain ⟨o18, u18⟩ := hx w8 p3
        refine hQ.fail a8 w8 (.inr ?_) (f7.trans (p2.ch (by omega) (by omega))) o18 u18 p5
        rcases p1 with h | h
        · cases h
        · exact hdn h
      · intro a8 w8 p1 p2 p3 p4 p5
        obtain ⟨o18, u18⟩ := hx w8 p4
        refine hQ.ret a8 w8 (.inr ?_) p2 p3 o18 u18
        rcases p1 with h | h
        · cases h
        · exact hdn h
  · have hd : bad = true ∨ dec (M.opt sz e).w bs = none := hbad.imp id fun h => by rw [h]; simp only [M.w, dec]
    refine hskip (st2 hr (by simp)) (by simp) fun a3 w3 g3 o3 st3 => ?_
    exact hQ.fail a3 w3 hd g3 (hO1.trans (o3.none _)) (hU1.trans (Upd.same (o3.block b hb1.lt id))) st3
end
/-! ### a text behind a pointer; of old a text, laid in a box of its own -/

def gStB (G : Gn) (F st k m : Nat) (c0 : Code) : Code := reg [⟨some m, .call ⟨.value (.func F), #[.tmp G.rs], #[G.rt]⟩, none⟩, ⟨none, .store st (.tmp k) (.tmp m), none⟩] c0
def gVvR (G : Gn) (st : Nat) (cv : Int) (uc sc up sp vc wc vp wp : Nat) (k m : Nat) (sink : Code → Code) (c : Code) : Code :=
  .seq (reg [⟨some k, .assign (.const (.pointer none)), none⟩] (pc c [0]))
  (.seq (.seq (reg [⟨some m, .move (.tmp 8), none⟩, ⟨some (m + 1), .binOp .lss G.i16 (.tmp m) (.const (.int .i16 cv)) G.i16, none⟩] (pc c [1, 0, 0]))
    (.cond (.tmp (m + 1))
      (.seq (reg [⟨some (k + 1), .alloc st, none⟩] (pc c [1, 0, 1, 0, 0]))
        (.seq (.seq (gMove 9 (m + 2) (pc c [1, 0, 1, 0, 1, 0, 0])) (.cond (.tmp (m + 2))
            (.seq (gMove 2 (m + 3) (pc c [1, 0, 1, 0, 1, 0, 1, 0, 0])) (.cond (.tmp (m + 3)) (gStB G uc st (k + 1) (m + 4) (pc c [1, 0, 1, 0, 1, 0, 1, 0, 1, 0])) (gStB G sc st (k + 1) (m + 5) (pc c [1, 0, 1, 0, 1, 0, 1, 0, 1, 1]))))
            (.seq (gMove 2 (m + 6) (pc c [1, 0, 1, 0, 1, 0, 1, 1, 0])) (.cond (.tmp (m + 6)) (gStB G up st (k + 1) (m + 7) (pc c [1, 0, 1, 0, 1, 0, 1, 1, 1, 0])) (gStB G sp st (k + 1) (m + 8) (pc c [1, 0, 1, 0, 1, 0, 1, 1, 1, 1]))))))
          (reg [⟨some k, .assign (.tmp (k + 1)), none⟩] (pc c [1, 0, 1, 0, 1, 1]))))
      (.seq (gMove 9 (m + 9) (pc c [1, 0, 1, 1, 0])) (.cond (.tmp (m + 9))
        (.seq (gMove 2 (m + 10) (pc c [1, 0, 1, 1, 1, 0, 0])) (.cond (.tmp (m + 10)) (gCall G vc k (m + 11) (pc c [1, 0, 1, 1, 1, 0, 1, 0])) (gCall G wc k (m + 12) (pc c [1, 0, 1, 1, 1, 0, 1, 1]))))
        (.seq (gMove 2 (m + 13) (pc c [1, 0, 1, 1, 1, 1, 0])) (.cond (.tmp (m + 13)) (gCall G vp k (m + 14) (pc c [1, 0, 1, 1, 1, 1, 1, 0])) (gCall G wp k (m + 15) (pc c [1, 0, 1, 1, 1, 1, 1, 1]))))))))
    (sink (pc c [1, 1])))

section
variable {X : RX} {Q : Exit → Act → World → Prop}
theorem gStB_wp {F st k m q : Nat} {c0 : Code} {c : Bool} (hF : RdC X.P F (.str c false)) (hsz : ∃ inf, X.P.info? st = some inf ∧ inf.size = 1) {a : Act} {w : World} {nn : Bool} {bs : List UInt8} {bad : Bool} (hst : St X a w nn bs bad)
    (hk : gt a k = .pointer (some ⟨q, 0, none⟩)) (hq : Blk w q 1) (hqr : q ≠ X.rb) (hqD : q ≠ X.D) (hkm : k ≠ m) (hN : m < X.N)
    (h : ∀ a' w', Ag (fun j => j = m) a a' → Only (fun j => j = X.rb ∨ j = q) w w' → Comes1 X.D X.rb bs bad w' (RK.str c false).dec (fun x => ∃ s, x = .bytes (some s) ∧ w'.cell? ⟨q, 0, none⟩ = some (strV s)) → Q .normal a' w') : (gStB X.G F st k m c0).wp X.P Q a w := by
  refine wp_reg (wpC_call (R := fun v w' => v.cells.size = (RK.str c false).n ∧ (∀ c ∈ v.cells.toList, c.oneCell' = true) ∧ Only (· = X.rb) w w' ∧ Comes1 X.D X.rb bs bad w' (RK.str c false).dec (fun x => (RK.str c false).leaf X.D w' w.heap.size w'.heap.size v.cells.toList x)) hF.1 (by rw [argRd hst]; exact hF.2 X.D X.rb w nn bs bad hst.st hst.lim) ?_)
  rintro v w1 ⟨v1, v2, v3, v4⟩
  have hrb := hst.rb_gt
  have hrl := hst.st.lt
  have hs : m < a.tmps.size := by rw [hst.size]; exact hN
  have g1 := (Ag.refl (fun j => j = m) a).put (d := m) rfl hs v
  have e1 : gt (a.put (some m) v) m = v := by rw [gt_put hs, if_pos rfl]
  have e2 : gt (a.put (some m) v) k = .pointer (some ⟨q, 0, none⟩) := by rw [gt_put hs, if_neg hkm]; exact hk
  generalize a.put (some m) v = a1 at g1 e1 e2
  have hv1 : v.cells.size = 1 := v1
  obtain ⟨w2, hr, hw⟩ := runs_storeN (P := X.P) (a := a1) (w := w1) (u := st) (x := .tmp k) (y := .tmp m) (b := q) (o := 0) (n := 1) (v := v) e2 e1 (by obtain ⟨inf, hi, hz⟩ := hsz; exact ⟨inf, hi, hz.trans hv1.symm⟩) v2 (hq.keep (v3.block q hq.lt hqr)) (by omega)
  refine wpC_skip hr (wpC_nil (h a1 w2 g1 ((v3.mono fun _ _ h => .inl h).trans (hw.only.mono fun _ _ h => .inr h)) ?_))
  have hl := v3.size
  have kD : w2.heap[X.D]? = w1.heap[X.D]? := hw.only.block _ (by omega) (by omega)
  have kr : w2.heap[X.rb]? = w1.heap[X.rb]? := hw.only.block _ (by omega) (by omega)
  rcases v4 with ⟨c1, x, bs', c2, c3, c4, nn', c5⟩ | ⟨c1, c2⟩
  · refine .inl ⟨c1, x, bs', c2, c3, ?_, nn', c5.keep kD kr⟩
    rcases c4 with ⟨_, s, hx, hcs⟩ | ⟨h0, _⟩
    · refine ⟨s, hx, ?_⟩
      have := hw.cells 0 (strV s) (by rw [hcs]; rfl)
      simpa using this
    · cases h0
  · exact .inr ⟨c1, c2.keep kD kr⟩

theorem gVvR_reads {T i o u st s k m b off N uc sc up sp vc wc vp wp : Nat} {cv : Int} {c0 : Code} {a : Act} {w : World} {nn : Bool} {bs : List UInt8} {bad : Bool} (hF : X.fx = true ∧ RdC X.P sc (.str true false) ∧ RdC X.P sp (.str false false)) (hG : X.fx = true ∧ RdC X.P wc (.str true true) ∧ RdC X.P wp (.str false true))
    (hal : Alc X.P st #[.string ⟨#[]⟩]) (hsz : ∃ inf, X.P.info? st = some inf ∧ inf.size = 1) (hst : St X a w nn bs bad)
    (hs : gt a s = .pointer (some ⟨b, off, none⟩)) (hf : FieldAt X.P T i o u 1) (hb : Blk w b N) (hn : off + o + 1 ≤ N) (hbr : b ≠ X.rb) (hbD : (X.L ≤ b ∧ b ≠ X.D))
    (h9 : 9 ≤ X.b9 ∧ X.b9 < k) (hsk : s < k) (hk : k + 2 ≤ X.M0) (hm : X.M0 ≤ m) (hN : m + 20 ≤ X.N) :
    Reads X (gVvR X.G st cv uc sc up sp vc wc vp wp k m (sinkF T i u s k (m + 16)) c0) (dec (if X.ver < cv then M.pstr X.flex else .str X.flex true).w) (fun w' lo hi x => Holds X.D (if X.ver < cv then M.pstr X.flex else .str X.flex true) w' lo hi b (off + o) x) k m b (off + o) (off + o + 1) a w bs bad := by
  intro Q hQ
  have hrb := hst.rb_gt
  have hrl := hst.st.lt
  have hbl := hb.lt
  have hsz0 := hst.size
  have y0 : k < a.tmps.size := by omega
  refine wp_seq (wp_reg (wpC_val (runs_assign _) (wpC_nil ?_)))
  have g1 := (Ag.refl (Ch X.M0 k m) a).put (d := k) (by unfold Ch; omega) y0 (a.eval (.const (.pointer none)))
  generalize a.put (some k) (a.eval (.const (.pointer none))) = a1 at g1
  have z1 : m < a1.tmps.size := by rw [g1.size]; omega
  refine wp_seq (wp_seq (wp_reg (wpC_val (runs_move _) ?_)))
  rw [evT, show gt a1 8 = .int .i16 X.ver from (g1.keep 8 (by unfold Ch; omega)).trans hst.ver]
  have g2 := g1.put (d := m) (by unfold Ch; omega) z1 (.int .i16 X.ver)
  have e2 : gt (a1.put (some m) (.int .i16 X.ver)) m = .int .i16 X.ver := by rw [gt_put z1, if_pos rfl]
  generalize a1.put (some m) (.int .i16 X.ver) = a2 at g2 e2
  refine wpC_val (runs_cmp .lss _ (.inl ⟨rfl, rfl⟩) (k := .i16) (p := X.ver) (q := cv) e2 rfl) (wpC_nil ?_)
  have z2 : m + 1 < a2.tmps.size := by rw [g2.size]; omega
  have g3 := g2.put (d := m + 1) (by unfold Ch; omega) z2 (.bool (decide (X.ver < cv)))
  have e3 : gt (a2.put (some (m + 1)) (.bool (decide (X.ver < cv)))) (m + 1) = .bool (decide (X.ver < cv)) := by rw [gt_put z2, if_pos rfl]
  generalize a2.put (some (m + 1)) (.bool (decide (X.ver < cv))) = a3 at g3 e3
  have st3 := hst.act g3 h9 (by omega) (by omega)
  have sz3 := st3.size
  refine wp_cond (t := decide (X.ver < cv)) e3 ?_
  by_cases hv : X.ver < cv
  · rw [if_pos (by simpa using hv)]
    rw [if_pos hv] at hQ
    -- the box
    have zk : k + 1 < a3.tmps.size := by omega
    refine wp_seq (wp_reg (wpC_val (v := .pointer (some ⟨w.heap.size, 0, none⟩)) (w' := w.alloc (.cells #[.string ⟨#[]⟩] st)) (fun o ho => hal o _ _ ho) (wpC_nil ?_)))
    have g4 := g3.put (d := k + 1) (by unfold Ch; omega) zk (.pointer (some ⟨w.heap.size, 0, none⟩))
    have e4 : gt (a3.put (some (k + 1)) (.pointer (some ⟨w.heap.size, 0, none⟩))) (k + 1) = .pointer (some ⟨w.heap.size, 0, none⟩) := by rw [gt_put zk, if_pos rfl]
    generalize a3.put (some (k + 1)) (.pointer (some ⟨w.heap.size, 0, none⟩)) = a4 at g4 e4
    have oal : Only (fun _ => False) w (w.alloc (.cells #[.string ⟨#[]⟩] st)) := ⟨rfl, rfl, rfl, by simp, fun q hq _ => by show (w.heap.push _)[q]? = _; rw [Array.getElem?_push, if_neg (by omega)]⟩
    have hqb : Blk (w.alloc (.cells #[.string ⟨#[]⟩] st)) w.heap.size 1 := ⟨#[.string ⟨#[]⟩], st, by show (w.heap.push _)[w.heap.size]? = _; simp, rfl⟩
    have hws : (w.alloc (.cells #[.string ⟨#[]⟩] st)).heap.size = w.heap.size + 1 := by simp
    generalize w.alloc (.cells #[.string ⟨#[]⟩] st) = w4 at oal hqb hws
    have st4 : St X a4 w4 nn bs bad := (hst.act g4 h9 (by omega) (by omega)).none oal
    have sz4 := st4.size
    -- behind the reading
    have fin : ∀ (c : Bool), c = X.flex → ∀ c1 a5 w5, Ag (Ch X.M0 k m) a a5 → gt a5 (k + 1) = .pointer (some ⟨w.heap.size, 0, none⟩) → Only (fun j => j = X.rb ∨ j = w.heap.size) w4 w5 → Comes1 X.D X.rb bs bad w5 (RK.str c false).dec (fun x => ∃ s, x = .bytes (some s) ∧ w5.cell? ⟨w.heap.size, 0, none⟩ = some (strV s)) →
        (reg [⟨some k, .assign (.tmp (k + 1)), none⟩] c1).wp X.P (Exit.then ((sinkF T i u s k (m + 16) (pc c0 [1, 1])).wp X.P Q) Q) a5 w5 := by
      intro c hcf c1 a5 w5 g5 e5 o5 hc5
      subst hcf
      have sz5 : a5.tmps.size = X.N := g5.size.trans hsz0
      refine wp_reg (wpC_val (runs_assign _) (wpC_nil ?_))
      rw [evT, e5]
      have z5 : k < a5.tmps.size := by omega
      have g6 := g5.put (d := k) (by unfold Ch; omega) z5 (.pointer (some ⟨w.heap.size, 0, none⟩))
      have e6 : gt (a5.put (some k) (.pointer (some ⟨w.heap.size, 0, none⟩))) k = .pointer (some ⟨w.heap.size, 0, none⟩) := by rw [gt_put z5, if_pos rfl]
      generalize a5.put (some k) (.pointer (some ⟨w.heap.size, 0, none⟩)) = a6 at g6 e6
      have o05 : Only (fun j => j = X.rb) w w5 := ⟨o5.os.trans oal.os, o5.tape.trans oal.tape, o5.output.trans oal.output, Nat.le_trans oal.size o5.size, fun j hj hne => (o5.block j (by omega) (by rintro (h | h); exact hne h; omega)).trans (oal.block j hj id)⟩
      have hl5 := o5.size
      refine sinkF_wp (n := 1) (v := .pointer (some ⟨w.heap.size, 0, none⟩)) ((g6.keep s (by unfold Ch; omega)).trans hs) e6 hf rfl (by simp [Value.cells, Value.oneCell']) (hb.keep (o05.block b hbl hbr)) hn (by omega) (by omega) (by rw [g6.size]; omega) fun a7 w7 g7 wr7 => ?_
      have g8 : Ag (Ch X.M0 k m) a a7 := g6.trans (g7.tm (by omega))
      have o57 := wr7.only
      have o07 : Only (fun j => j = X.rb ∨ j = b) w w7 := (o05.mono fun _ _ h => .inl h).trans (o57.mono fun _ _ h => .inr h)
      have hU : Upd b (off + o) (off + o + 1) w w7 := (Upd.same (o05.block b hbl hbr)).trans wr7.upd
      have hs7 := wr7.same
      have kD : w7.heap[X.D]? = w5.heap[X.D]? := o57.block _ (by omega) (by omega)
      have kr : w7.heap[X.rb]? = w5.heap[X.rb]? := o57.block _ (by omega) (by omega)
      have st8 := hst.act g8 h9 (by omega) (by omega)
      rcases hc5 with ⟨hbad, x, bs', hd, hl, ⟨t, rfl, ht⟩, nn', hr⟩ | ⟨hbad, hr⟩
      · refine hQ.good a7 w7 (.bytes (some t)) bs' nn' hbad hd g8 o07 hU (st8.world (hr.keep kD kr) hl (o07.mono fun q _ h => by omega)) ⟨by omega, [.pointer (some ⟨w.heap.size, 0, none⟩)], ?_, .inr ⟨t, w.heap.size, rfl, rfl, Nat.le_refl _, by omega, ?_⟩⟩
        · simpa [Value.cells] using wr7.cells
        · exact (World.cell?_of_block (w := w5) (o57.block w.heap.size (by omega) (by omega))).trans ht
      · exact hQ.fail a7 w7 hbad g8 o07 hU (st8.world (hr.keep kD kr) (by simp) (o07.mono fun q _ h => by omega))
    have zm2 : m + 2 < a4.tmps.size := by omega
    refine wp_seq (wp_seq (gMove_wp (X := X) zm2 ?_))
    have g5 := g4.put (d := m + 2) (by unfold Ch; omega) zm2 (gt a4 9)
    have e5 : gt (a4.put (some (m + 2)) (gt a4 9)) (m + 2) = .bool X.flex := by rw [gt_put zm2, if_pos rfl]; exact st4.fl hF.1
    have e5k : gt (a4.put (some (m + 2)) (gt a4 9)) (k + 1) = .pointer (some ⟨w.heap.size, 0, none⟩) := by rw [gt_put zm2, if_neg (by omega)]; exact e4
    generalize a4.put (some (m + 2)) (gt a4 9) = a5 at g5 e5 e5k
    have st5 : St X a5 w4 nn bs bad := (hst.act g5 h9 (by omega) (by omega)).none oal
    have sz5 := st5.size
    refine wp_cond (t := X.flex) e5 ?_
    cases hfl : X.flex with
    | true =>
      rw [if_pos rfl]
      have z6 : m + 3 < a5.tmps.size := by omega
      refine wp_seq (gMove_wp (X := X) z6 ?_)
      have g6 := g5.put (d := m + 3) (by unfold Ch; omega) z6 (gt a5 2)
      have e6 : gt (a5.put (some (m + 3)) (gt a5 2)) (m + 3) = .bool false := by rw [gt_put z6, if_pos rfl]; exact st5.un
      have e6k : gt (a5.put (some (m + 3)) (gt a5 2)) (k + 1) = .pointer (some ⟨w.heap.size, 0, none⟩) := by rw [gt_put z6, if_neg (by omega)]; exact e5k
      generalize a5.put (some (m + 3)) (gt a5 2) = a6 at g6 e6 e6k
      have st6 : St X a6 w4 nn bs bad := (hst.act g6 h9 (by omega) (by omega)).none oal
      refine wp_cond_false e6 (gStB_wp hF.2.1 hsz st6 e6k hqb (by omega) (by omega) (by omega) (by omega) fun a7 w7 p1 p2 p3 => ?_)
      exact fin true hfl.symm _ a7 w7 (g6.trans (p1.mono fun j hj => by unfold Ch; omega)) ((p1.keep (k + 1) (by omega)).trans e6k) p2 p3
    | false =>
      rw [if_neg (by decide)]
      have z6 : m + 6 < a5.tmps.size := by omega
      refine wp_seq (gMove_wp (X := X) z6 ?_)
      have g6 := g5.put (d := m + 6) (by unfold Ch; omega) z6 (gt a5 2)
      have e6 : gt (a5.put (some (m + 6)) (gt a5 2)) (m + 6) = .bool false := by rw [gt_put z6, if_pos rfl]; exact st5.un
      have e6k : gt (a5.put (some (m + 6)) (gt a5 2)) (k + 1) = .pointer (some ⟨w.heap.size, 0, none⟩) := by rw [gt_put z6, if_neg (by omega)]; exact e5k
      generalize a5.put (some (m + 6)) (gt a5 2) = a6 at g6 e6 e6k
      have st6 : St X a6 w4 nn bs bad := (hst.act g6 h9 (by omega) (by omega)).none oal
      refine wp_cond_false e6 (gStB_wp hF.2.2 hsz st6 e6k hqb (by omega) (by omega) (by omega) (by omega) fun a7 w7 p1 p2 p3 => ?_)
      exact fin false hfl.symm _ a7 w7 (g6.trans (p1.mono fun j hj => by unfold Ch; omega)) ((p1.keep (k + 1) (by omega)).trans e6k) p2 p3
  · rw [if_neg (by simpa using hv)]
    rw [if_neg hv] at hQ
    have fin : ∀ a5 w5 v, Got X none (.str X.flex true) k k m a w bs bad a5 w5 v → (sinkF T i u s k (m + 16) (pc c0 [1, 1])).wp X.P Q a5 w5 := by
      intro a5 w5 v g
      have hb5 : Blk w5 b N := hb.keep (g.only.block b hbl hbr)
      have sz5 : a5.tmps.size = X.N := g.ag.size.trans hsz0
      refine sinkF_wp (n := 1) ((g.ag.keep s (by unfold Ch; omega)).trans hs) g.val hf g.n g.one hb5 hn (by omega) (by omega) (by omega) fun a2 w2 ha2 hw2 => ?_
      obtain ⟨h1, h2, h3, h4⟩ := g.store hst hw2 hbl hbr hbD
      have hlen : v.cells.toList.length = 1 := by have : v.cells.size = 1 := g.n; simpa using this
      rw [hlen] at h2
      have hag : Ag (Ch X.M0 k m) a a2 := g.ag.trans (ha2.tm (by omega))
      have hst2 := hst.act hag h9 (by omega) (by omega)
      rcases h4 with ⟨hbad, x, bs', hd, hl, hx, nn', hr⟩ | ⟨hbad, hr⟩
      · exact hQ.good a2 w2 x bs' nn' hbad hd hag h1 h2 (hst2.world hr hl h3) hx
      · exact hQ.fail a2 w2 hbad hag h1 h2 (hst2.world hr (by simp) h3)
    have z4 : m + 9 < a3.tmps.size := by omega
    refine wp_seq (gMove_wp (X := X) z4 ?_)
    have g4 := g3.put (d := m + 9) (by unfold Ch; omega) z4 (gt a3 9)
    have e4 : gt (a3.put (some (m + 9)) (gt a3 9)) (m + 9) = .bool X.flex := by rw [gt_put z4, if_pos rfl]; exact st3.fl hG.1
    generalize a3.put (some (m + 9)) (gt a3 9) = a4 at g4 e4
    have st4 := hst.act g4 h9 (by omega) (by omega)
    have sz4 := st4.size
    refine wp_cond (t := X.flex) e4 ?_
    cases hfl : X.flex with
    | true =>
      rw [if_pos rfl]
      have z5 : m + 10 < a4.tmps.size := by omega
      refine wp_seq (gMove_wp (X := X) z5 ?_)
      have g5 := g4.put (d := m + 10) (by unfold Ch; omega) z5 (gt a4 2)
      have e5 : gt (a4.put (some (m + 10)) (gt a4 2)) (m + 10) = .bool false := by rw [gt_put z5, if_pos rfl]; exact st4.un
      generalize a4.put (some (m + 10)) (gt a4 2) = a5 at g5 e5
      have st5 := hst.act g5 h9 (by omega) (by omega)
      exact wp_cond_false e5 (gCall_wp (rk := .str true true) hG.2.1 st5 g5 (Nat.le_refl _) (by omega) (by omega) (by omega) (by omega) fun a' w' v hv => fin a' w' v (by rw [hfl]; exact hv))
    | false =>
      rw [if_neg (by decide)]
      have z5 : m + 13 < a4.tmps.size := by omega
      refine wp_seq (gMove_wp (X := X) z5 ?_)
      have g5 := g4.put (d := m + 13) (by unfold Ch; omega) z5 (gt a4 2)
      have e5 : gt (a4.put (some (m + 13)) (gt a4 2)) (m + 13) = .bool false := by rw [gt_put z5, if_pos rfl]; exact st4.un
      generalize a4.put (some (m + 13)) (gt a4 2) = a5 at g5 e5
      have st5 := hst.act g5 h9 (by omega) (by omega)
      exact wp_cond_false e5 (gCall_wp (rk := .str false true) hG.2.2 st5 g5 (Nat.le_refl _) (by omega) (by omega) (by omega) (by omega) fun a' w' v hv => fin a' w' v (by rw [hfl]; exact hv))
end
end Go.Proofs.YtpefipjgcpchaaaGreatDoorR.Kf

namespace Go.Proofs.YtpefipjgcpchaaaGreatDoorR.Kf
set_option linter.unusedVariables false
set_option linter.unusedSimpArgs false
open Go Go.RowKit

inductive R
  | done
  | val (c : Cond) (i o u : Nat) (v : RV) (rest : R)
  | arrV (c : Cond) (i o TS eb : Nat) (zs : List Value) (l : Fl) (nl : Option Int) (u : Nat) (v : RV) (rest : R)
  | arrS (c : Cond) (i o TS eb : Nat) (zs : List Value) (l : Fl) (nl : Option Int) (D PT T : Nat) (body rest : R)
  | tags (i o u F : Nat) (rest : R)
  | optS (c : Cond) (i o PT ti FI DF T : Nat) (zs : List Value) (body rest : R)
  | inl (c : Cond) (i o u n PT DF T : Nat) (body rest : R)
  | vv (c : Cond) (i o u st : Nat) (cv : Int) (uc sc up sp vc wc vp wp : Nat) (rest : R)

def R.isDone : R → Bool
  | .done => true
  | _ => false

/-- How many variables, how many temporaries. -/
def R.k : R → Nat
  | .done => 0
  | .val _ _ _ _ v r => v.kn + r.k
  | .arrV _ _ _ _ _ _ _ _ _ v r => 4 + v.kn + r.k
  | .arrS _ _ _ _ _ _ _ _ _ _ _ b r => 6 + b.k + r.k
  | .tags _ _ _ _ r => r.k
  | .optS _ _ _ _ _ _ _ _ _ b r => 3 + b.k + r.k
  | .inl _ _ _ _ _ _ _ _ b r => 2 + b.k + r.k
  | .vv _ _ _ _ _ _ _ _ _ _ _ _ _ _ r => 2 + r.k
def R.t : R → Nat
  | .done => 0
  | .val c _ _ _ v r => c.t + (v.t + 4) + r.t
  | .arrV c _ _ _ _ _ l nl _ v r => c.t + arrT l nl (v.t + 4) + r.t
  | .arrS c _ _ _ _ _ l nl _ _ _ b r => c.t + arrT l nl (6 + b.t) + r.t
  | .tags _ _ _ _ r => 5 + r.t
  | .optS c _ _ _ _ _ _ _ _ b r => c.t + (17 + b.t) + r.t
  | .inl c _ _ _ _ _ _ _ b r => c.t + (6 + b.t) + r.t
  | .vv c _ _ _ _ _ _ _ _ _ _ _ _ _ r => c.t + 20 + r.t

/-- The places of its lists (and of its parts behind pointers: true). -/
def R.nils : R → List (Nat × Bool)
  | .done => []
  | .val _ _ _ _ _ r => r.nils
  | .arrV _ _ o _ _ _ _ _ _ _ r => (o, false) :: r.nils
  | .arrS _ _ o _ _ _ _ _ _ _ _ _ r => (o, false) :: r.nils
  | .tags _ _ _ _ r => r.nils
  | .optS _ _ o _ _ _ _ _ _ _ r => (o, true) :: r.nils
  | .inl _ _ o _ _ _ _ _ b r => b.nils.map (fun q => (o + q.1, q.2)) ++ r.nils
  | .vv _ _ _ _ _ _ _ _ _ _ _ _ _ _ r => r.nils

def R.m (ver : Int) (flex : Bool) : R → M
  | .done => .unit
  | .val c _ o _ v r => if c.holds ver then .fld o (v.rk flex).m (r.m ver flex) else r.m ver flex
  | .arrV c _ o _ _ zs l nl _ v r => if c.holds ver then .fld o (.arr (l.c flex) nl.isSome (nullR ver nl) zs.length (v.rk flex).m) (r.m ver flex) else r.m ver flex
  | .arrS c _ o _ _ zs l nl _ _ _ b r => if c.holds ver then .fld o (.arr (l.c flex) nl.isSome (nullR ver nl) zs.length (b.m ver flex)) (r.m ver flex) else r.m ver flex
  | .tags _ o _ _ r => if flex then .fld o .tags (r.m ver flex) else r.m ver flex
  | .optS c _ o _ _ _ _ _ zs b r => if c.holds ver then .fld o (.opt zs.length (b.m ver flex)) (r.m ver flex) else r.m ver flex
  | .inl c _ o _ _ _ _ _ b r => if c.holds ver then .fld o (b.m ver flex) (r.m ver flex) else r.m ver flex
  | .vv c _ o _ _ cv _ _ _ _ _ _ _ _ r => if c.holds ver then .fld o (if ver < cv then .pstr flex else .str flex true) (r.m ver flex) else r.m ver flex

/-- What the numbers in it must be, in a program; T: the part's own type; its cells lie from lo on and below hi. -/
def R.ok (P : Program) (fx : Bool) : R → Nat → Nat → Nat → Prop
  | .done, _, lo, hi => lo ≤ hi
  | .val _ i o u v r, T, lo, hi => lo ≤ o ∧ v.ok P fx ∧ (∀ flex, FieldAt P T i o u (v.rk flex).n) ∧ r.ok P fx T (o + (v.rk true).n) hi
  | .arrV _ i o TS eb zs l _ u v r, T, lo, hi => lo ≤ o ∧ v.ok P fx ∧ l.ok P fx ∧ FieldAt P T i o TS 1 ∧ Sl P TS zs.length eb zs ∧ eb ≤ 2048 ∧ (∃ inf, P.info? u = some inf ∧ inf.size = zs.length) ∧ (∀ flex, (v.rk flex).n = zs.length) ∧ r.ok P fx T (o + 1) hi
  | .arrS _ i o TS eb zs l _ D _ T' b r, T, lo, hi => lo ≤ o ∧ l.ok P fx ∧ FieldAt P T i o TS 1 ∧ Sl P TS zs.length eb zs ∧ eb ≤ 2048 ∧ DefC P D zs.length (b.nils.map (·.1)) ∧ (∀ q ∈ b.nils, ∃ v, zs[q.1]? = some v ∧ isNilS q.2 v = true) ∧ b.ok P fx T' 0 zs.length ∧ r.ok P fx T (o + 1) hi
  | .tags i o u F r, T, lo, hi => lo ≤ o ∧ fx = true ∧ RdC P F .tags ∧ FieldAt P T i o u 1 ∧ r.ok P fx T (o + 1) hi
  | .optS _ i o PT _ FI DF T' zs b r, T, lo, hi => lo ≤ o ∧ I8C P FI ∧ FieldAt P T i o PT 1 ∧ One P PT ∧ Alc P T' zs.toArray ∧ DefC P DF zs.length (b.nils.map (·.1)) ∧ (∀ q ∈ b.nils, ∃ v, zs.toArray[q.1]? = some v ∧ isNilS q.2 v = true) ∧ b.ok P fx T' 0 zs.length ∧ r.ok P fx T (o + 1) hi
  | .inl _ i o u n _ DF T' b r, T, lo, hi => lo ≤ o ∧ FieldAt P T i o u n ∧ DefC P DF n (b.nils.map (·.1)) ∧ b.ok P fx T' 0 n ∧ r.ok P fx T (o + n) hi
  | .vv _ i o u st _ _ sc _ sp _ wc _ wp r, T, lo, hi => lo ≤ o ∧ (fx = true ∧ RdC P sc (.str true false) ∧ RdC P sp (.str false false)) ∧ (fx = true ∧ RdC P wc (.str true true) ∧ RdC P wp (.str false true)) ∧ Alc P st #[.string ⟨#[]⟩] ∧ (∃ inf, P.info? st = some inf ∧ inf.size = 1) ∧ FieldAt P T i o u 1 ∧ r.ok P fx T (o + 1) hi

def join (f : Code → Code) (last : Bool) (g : Code → Code) (c : Code) : Code := if last then f c else .seq (f (pc c [0])) (g (pc c [1]))

/-- The code of a list's thing that is a part. -/
def gEl (TS as is D PT k m : Nat) (body : Code → Code) (c : Code) : Code :=
  .seq (reg [⟨some m, .move (.tmp as), none⟩, ⟨some (m + 1), .move (.tmp is), none⟩, ⟨some (m + 2), .indexAddr TS (.tmp m) (.tmp (m + 1)), none⟩, ⟨some k, .assign (.tmp (m + 2)), none⟩] (pc c [0]))
  (.seq (reg [⟨some (m + 3), .move (.tmp k), none⟩, ⟨some (m + 4), .call ⟨.value (.func D), #[.tmp (m + 3)], #[PT]⟩, none⟩] (pc c [1, 0]))
  (.seq (gCopy k (k + 1) (m + 5) (pc c [1, 1, 0])) (body (pc c [1, 1, 1]))))

def gTags (G : Gn) (F T i u s m : Nat) (c : Code) : Code :=
  .seq (gMove 9 m (pc c [0])) (.cond (.tmp m) (reg [⟨some (m + 1), .move (.tmp s), none⟩, ⟨some (m + 2), .call ⟨.value (.func F), #[.tmp G.rs], #[G.rp]⟩, none⟩, ⟨some (m + 3), .nilCheck (.tmp (m + 1)), none⟩, ⟨some (m + 4), .fieldAddr T (.tmp (m + 3)) i, none⟩, ⟨none, .store u (.tmp (m + 4)) (.tmp (m + 2)), none⟩] (pc c [1, 0])) .skip)

/-- The code of a part within a part. -/
def gInl (T i PT DF s k m : Nat) (body : Code → Code) (c : Code) : Code :=
  .seq (reg [⟨some m, .move (.tmp s), none⟩, ⟨some (m + 1), .nilCheck (.tmp m), none⟩, ⟨some (m + 2), .fieldAddr T (.tmp (m + 1)) i, none⟩, ⟨some k, .assign (.tmp (m + 2)), none⟩] (pc c [0]))
  (.seq (gDefq DF PT k (m + 3) (pc c [1, 0])) (.seq (gCopy k (k + 1) (m + 5) (pc c [1, 1, 0])) (body (pc c [1, 1, 1]))))

def gR (G : Gn) : R → (T s k m : Nat) → Option (Code → Code) → Code → Code
  | .done, _, _, _, _, tail, c => match tail with | some t => t c | none => .skip
  | .val cd i _ u v r, T, s, k, m, tail, c => join (gCond G.i16 8 m (gRV G k (m + cd.t) (snkF v.bx T i u s (k + v.dk) (m + cd.t + v.t)) v) cd) (r.isDone && tail.isNone) (gR G r T s (k + v.kn) (m + (cd.t + (v.t + 4))) tail) c
  | .arrV cd i _ TS _ _ l nl u v r, T, s, k, m, tail, c => join (gCond G.i16 8 m (gArr G T i TS l nl s k (m + cd.t) (v.t + 4) (gRV G (k + 4) (m + cd.t + 5 + l.t + nullT nl + 10 + 5) (snkI v.bx TS u (k + 1) (k + 3) (k + 4 + v.dk) (m + cd.t + 5 + l.t + nullT nl + 10 + 5 + v.t)) v)) cd)
      (r.isDone && tail.isNone) (gR G r T s (k + (4 + v.kn)) (m + (cd.t + arrT l nl (v.t + 4))) tail) c
  | .arrS cd i _ TS _ _ l nl D PT T' b r, T, s, k, m, tail, c => join (gCond G.i16 8 m (gArr G T i TS l nl s k (m + cd.t) (6 + b.t) (gEl TS (k + 1) (k + 3) D PT (k + 4) (m + cd.t + 5 + l.t + nullT nl + 10 + 5)
        (gR G b T' (k + 5) (k + 6) (m + cd.t + 5 + l.t + nullT nl + 10 + 5 + 6) none))) cd)
      (r.isDone && tail.isNone) (gR G r T s (k + (6 + b.k)) (m + (cd.t + arrT l nl (6 + b.t))) tail) c
  | .tags i _ u F r, T, s, k, m, tail, c => join (gTags G F T i u s m) (r.isDone && tail.isNone) (gR G r T s k (m + 5) tail) c
  | .optS cd i _ PT ti FI DF T' _ b r, T, s, k, m, tail, c => join (gCond G.i16 8 m (gOpt G FI G.ok DF ti T i PT T' s k (m + cd.t) (gR G b T' (k + 2) (k + 3) (m + cd.t + 17) none)) cd) (r.isDone && tail.isNone) (gR G r T s (k + (3 + b.k)) (m + (cd.t + (17 + b.t))) tail) c
  | .inl cd i _ _ _ PT DF T' b r, T, s, k, m, tail, c => join (gCond G.i16 8 m (gInl T i PT DF s k (m + cd.t) (gR G b T' (k + 1) (k + 2) (m + cd.t + 6) none)) cd) (r.isDone && tail.isNone) (gR G r T s (k + (2 + b.k)) (m + (cd.t + (6 + b.t))) tail) c
  | .vv cd i _ u st cv uc sc up sp vc wc vp wp r, T, s, k, m, tail, c => join (gCond G.i16 8 m (gVvR G st cv uc sc up sp vc wc vp wp k (m + cd.t) (sinkF T i u s k (m + cd.t + 16))) cd) (r.isDone && tail.isNone) (gR G r T s (k + 2) (m + (cd.t + 20)) tail) c

section
variable {X : RX}

/-- Behind all fields: what follows in the code, if something does. -/
def tq (P : Program) (tail : Option (Code → Code)) (Q : Exit → Act → World → Prop) : Exit → Act → World → Prop :=
  match tail with
  | none => Q
  | some t => Exit.then (fun a w => ∀ c, (t c).wp P Q a w) Q

theorem RQ.act {dc : List UInt8 → Option (Val × List UInt8)} {H : World → Nat → Nat → Val → Prop} {k m k' m' b lo hi : Nat} {a a' : Act} {w : World} {bs : List UInt8} {bad : Bool} {Q : Exit → Act → World → Prop}
    (h : RQ X dc H k m b lo hi a w bs bad Q) (ha : Ag (Ch X.M0 k m) a a') (hk : k ≤ k') (hm : m ≤ m') : RQ X dc H k' m' b lo hi a' w bs bad Q :=
  ⟨fun a1 w1 x bs' nn' h1 h2 h3 => h.good a1 w1 x bs' nn' h1 h2 (ha.trans (h3.ch hk hm)), fun a1 w1 h1 h2 => h.fail a1 w1 h1 (ha.trans (h2.ch hk hm)), h.ret⟩

theorem gCond_reads {cd : Cond} {m k : Nat} {body : Code → Code} {dc : List UInt8 → Option (Val × List UInt8)} {H : World → Nat → Nat → Val → Prop} {b lo hi : Nat} {a : Act} {w : World} {nn : Bool} {bs : List UInt8} {bad : Bool} (hst : St X a w nn bs bad)
    (h8 : 8 < m) (hN : m + cd.t ≤ X.N) (hc : cd.holds X.ver = true) (h : ∀ c a', Ag (fun j => m ≤ j ∧ j < m + cd.t) a a' → Reads X (body c) dc H k (m + cd.t) b lo hi a' w bs bad) {c0 : Code} : Reads X (gCond X.G.i16 8 m body cd c0) dc H k m b lo hi a w bs bad := by
  intro Q hQ
  refine gCond_wp hst.ver h8 (by rw [hst.size]; exact hN) (fun _ c a' ha => ?_) fun hno => by rw [hc] at hno; cases hno
  exact h c a' ha Q (hQ.act (ha.mono fun j hj => by unfold Ch; omega) (Nat.le_refl _) (by omega))

theorem join_last {f g : Code → Code} {c : Code} : join f true g c = f c := rfl
theorem join_more {f g : Code → Code} {c : Code} : join f false g c = .seq (f (pc c [0])) (g (pc c [1])) := rfl

/-- A field that the version has, and what follows. -/
theorem R_step {F g : Code → Code} {last : Bool} {tail : Option (Code → Code)} {mF mR : M} {k m k2 m2 b off o n lo hi N : Nat} {a : Act} {w : World} {nn : Bool} {bs : List UInt8} {bad : Bool} {c : Code}
    (hst : St X a w nn bs bad) (hb : Blk w b N) (hbr : b ≠ X.rb) (hbD : (X.L ≤ b ∧ b ≠ X.D)) (hk : k ≤ k2) (hm : m ≤ m2) (hlo : lo ≤ o) (hcells : mF.cells ≤ n) (hon : o + n ≤ hi)
    (hF : ∀ c, Reads X (F c) (dec mF.w) (fun w' lo hi x => Holds X.D mF w' lo hi b (off + o) x) k m b (off + o) (off + o + n) a w bs bad)
    (hlast : last = true → tail = none ∧ mR = .unit)
    (hR : last = false → ∀ a1 w1 nn1 bs1 bad1, Ag (Ch X.M0 k m) a a1 → Only (fun j => j = X.rb ∨ j = b) w w1 → Upd b (off + o) (off + o + n) w w1 → St X a1 w1 nn1 bs1 bad1 → ∀ c Q, RQ X (dec mR.w) (fun w' lo hi x => Holds X.D mR w' lo hi b off x) k2 m2 b (off + (o + n)) (off + hi) a1 w1 bs1 bad1 (tq X.P tail Q) → (g c).wp X.P Q a1 w1)
    {Q : Exit → Act → World → Prop} (hQ : RQ X (dec (M.fld o mF mR).w) (fun w' lo hi x => Holds X.D (M.fld o mF mR) w' lo hi b off x) k m b (off + lo) (off + hi) a w bs bad (tq X.P tail Q)) : (join F last g c).wp X.P Q a w := by
  have hrb := hst.rb_gt
  cases hl : last with
  | true =>
    obtain ⟨rfl, rfl⟩ := hlast hl
    rw [join_last]
    refine hF c Q ⟨fun a1 w1 x bs' nn' h1 h2 h3 h4 h5 h6 h7 => ?_, fun a1 w1 h1 h2 h3 h4 h5 => ?_, fun a1 w1 h1 h2 h3 h4 h5 => ?_⟩
    · exact hQ.good a1 w1 (.pair x .unit) bs' nn' h1 (by simp only [M.w, dec, h2]) h3 h4 (h5.mono (by omega) (by omega)) h6 ⟨_, x, .unit, rfl, h7, rfl, Nat.le_refl _⟩
    · exact hQ.fail a1 w1 (h1.imp id fun h => by simp only [M.w, dec, h]) h2 h3 (h4.mono (by omega) (by omega)) h5
    · exact hQ.ret a1 w1 (h1.imp id fun h => by simp only [M.w, dec, h]) h2 h3 h4 (h5.mono (by omega) (by omega))
  | false =>
    rw [join_more]
    have hex : ∀ {a' w'}, tq X.P tail Q .ret a' w' → Q .ret a' w' := by
      intro a' w' h; cases tail <;> exact h
    refine wp_seq (hF _ _ ⟨fun a1 w1 x bs' nn' h1 h2 h3 h4 h5 h6 h7 => ?_, fun a1 w1 h1 h2 h3 h4 h5 => ?_, fun a1 w1 h1 h2 h3 h4 h5 => ?_⟩)
    · refine hR hl a1 w1 nn' bs' false h3 h4 h5 h6 _ Q ⟨fun a2 w2 y bs2 nn2 _ p2 p3 p4 p5 p6 p7 => ?_, fun a2 w2 p1 p2 p3 p4 p5 => ?_, fun a2 w2 p1 p2 p3 p4 p5 => ?_⟩
      · refine hQ.good a2 w2 (.pair x y) bs2 nn2 h1 (by simp only [M.w, dec, h2, p2]) (h3.trans (p3.ch hk hm)) (h4.trans p4) ((h5.mono (by omega) (by omega)).trans (p5.mono (by omega) (by omega))) p6 ⟨w1.heap.size, x, y, rfl, ?_, p7⟩
        have hl1 := h4.size
        have hrl := hst.st.lt
        have hbl := hb.lt
        refine h7.keep (p4.block _ (by omega) (by omega)) (fun q q1 q2 => p4.block q q2 (by omega)) fun j hj => p5.cell (h5.blk hb) (.inl (by omega))
      · exact hQ.fail a2 w2 (.inr (by rcases p1 with p1 | p1; cases p1; simp only [M.w, dec, h2, p1])) (h3.trans (p2.ch hk hm)) (h4.trans p3) ((h5.mono (by omega) (by omega)).trans (p4.mono (by omega) (by omega))) p5
      · exact hQ.ret a2 w2 (.inr (by rcases p1 with p1 | p1; cases p1; simp only [M.w, dec, h2, p1])) p2 p3 (h4.trans p4) ((h5.mono (by omega) (by omega)).trans (p5.mono (by omega) (by omega)))
    · have hbad : bad = true ∨ dec (M.fld o mF mR).w bs = none := h1.imp id fun h => by simp only [M.w, dec, h]
      refine hR hl a1 w1 false [] true h2 h3 h4 h5 _ Q ⟨fun a2 w2 y bs2 nn2 p1 => (nomatch p1), fun a2 w2 p1 p2 p3 p4 p5 => ?_, fun a2 w2 p1 p2 p3 p4 p5 => ?_⟩
      · exact hQ.fail a2 w2 hbad (h2.trans (p2.ch hk hm)) (h3.trans p3) ((h4.mono (by omega) (by omega)).trans (p4.mono (by omega) (by omega))) p5
      · exact hQ.ret a2 w2 hbad p2 p3 (h3.trans p4) ((h4.mono (by omega) (by omega)).trans (p5.mono (by omega) (by omega)))
    · exact hex (hQ.ret a1 w1 (h1.imp id fun h => by simp only [M.w, dec, h]) h2 h3 h4 (h5.mono (by omega) (by omega)))

/-- A field that the version has not. -/
theorem R_skip {F g : Code → Code} {last : Bool} {tail : Option (Code → Code)} {mR : M} {k m k2 m2 b off lo lo2 hi : Nat} {a : Act} {w : World} {nn : Bool} {bs : List UInt8} {bad : Bool} {c : Code}
    (hst : St X a w nn bs bad) (hk : k ≤ k2) (hm : m ≤ m2) (hlo : lo ≤ lo2) (h9 : 9 ≤ X.b9 ∧ X.b9 < k) (hm9 : X.b9 < m) (hM : X.b9 < X.M0)
    (hF : ∀ c Q, (∀ a1, Ag (Ch X.M0 k m) a a1 → Q .normal a1 w) → (F c).wp X.P Q a w)
    (hlast : last = true → tail = none ∧ mR = .unit)
    (hR : last = false → ∀ a1, Ag (Ch X.M0 k m) a a1 → St X a1 w nn bs bad → ∀ c Q, RQ X (dec mR.w) (fun w' lo hi x => Holds X.D mR w' lo hi b off x) k2 m2 b (off + lo2) (off + hi) a1 w bs bad (tq X.P tail Q) → (g c).wp X.P Q a1 w)
    {Q : Exit → Act → World → Prop} (hQ : RQ X (dec mR.w) (fun w' lo hi x => Holds X.D mR w' lo hi b off x) k m b (off + lo) (off + hi) a w bs bad (tq X.P tail Q)) : (join F last g c).wp X.P Q a w := by
  cases hl : last with
  | true =>
    obtain ⟨rfl, rfl⟩ := hlast hl
    rw [join_last]
    refine hF c Q fun a1 h1 => ?_
    have st1 := hst.act h1 h9 hm9 hM
    cases hb : bad with
    | true =>
      subst hb
      have : bs = [] := by
        obtain ⟨sv, e, q1, q2, q3, q4⟩ := hst.st
        have hnn := q4 rfl
        rcases q2 with ⟨_, _, q2⟩ | ⟨q2, _⟩
        · exact q2
        · rw [hnn] at q2; cases q2
      subst this
      have hnn : nn = false := by
        obtain ⟨sv, e, q1, q2, q3, q4⟩ := hst.st
        exact q4 rfl
      subst hnn
      exact hQ.fail a1 w (.inl rfl) h1 (Only.refl _ _) (Upd.same rfl) st1
    | false => subst hb; exact hQ.good a1 w .unit bs nn rfl rfl h1 (Only.refl _ _) (Upd.same rfl) st1 ⟨rfl, Nat.le_refl _⟩
  | false =>
    rw [join_more]
    refine wp_seq (hF _ _ fun a1 h1 => ?_)
    refine hR hl a1 h1 (hst.act h1 h9 hm9 hM) _ Q ?_
    have := hQ.act (k' := k2) (m' := m2) h1 hk hm
    exact ⟨fun a2 w2 x bs2 nn2 p1 p2 p3 p4 p5 => this.good a2 w2 x bs2 nn2 p1 p2 p3 p4 (p5.mono (by omega) (Nat.le_refl _)), fun a2 w2 p1 p2 p3 p4 => this.fail a2 w2 p1 p2 p3 (p4.mono (by omega) (Nat.le_refl _)), fun a2 w2 p1 p2 p3 p4 p5 => this.ret a2 w2 p1 p2 p3 p4 (p5.mono (by omega) (Nat.le_refl _))⟩
end
end Go.Proofs.YtpefipjgcpchaaaGreatDoorR.Kf

namespace Go.Proofs.YtpefipjgcpchaaaGreatDoorR.Kf
set_option linter.unusedVariables false
set_option linter.unusedSimpArgs false
open Go Go.RowKit

section
variable {X : RX}

theorem St.bad_nil {a : Act} {w : World} {nn : Bool} {bs : List UInt8} (hst : St X a w nn bs true) : nn = false ∧ bs = [] := by
  obtain ⟨sv, e, q1, q2, q3, q4⟩ := hst.st
  have hnn := q4 rfl
  refine ⟨hnn, ?_⟩
  rcases q2 with ⟨_, _, q2⟩ | ⟨q2, _⟩
  · exact q2
  · rw [hnn] at q2; cases q2

theorem RQ.unit {k m b off lo hi : Nat} {a : Act} {w : World} {nn : Bool} {bs : List UInt8} {bad : Bool} {Q : Exit → Act → World → Prop} (hst : St X a w nn bs bad)
    (hQ : RQ X (dec M.unit.w) (fun w' lo hi x => Holds X.D .unit w' lo hi b off x) k m b lo hi a w bs bad Q) : Q .normal a w := by
  cases bad with
  | true =>
    obtain ⟨rfl, rfl⟩ := hst.bad_nil
    exact hQ.fail a w (.inl rfl) (Ag.refl _ _) (Only.refl _ _) (Upd.same rfl) hst
  | false => exact hQ.good a w .unit bs nn rfl rfl (Ag.refl _ _) (Only.refl _ _) (Upd.same rfl) hst ⟨rfl, Nat.le_refl _⟩

/-- A step ahead of the reading that leaves the reader alone. -/
theorem RQ.pre {mm : M} {k m b off lo hi lo' hi' : Nat} {a : Act} {w w1 : World} {nn : Bool} {bs : List UInt8} {bad : Bool} {Q : Exit → Act → World → Prop}
    (hQ : RQ X (dec mm.w) (fun w' lo hi x => Holds X.D mm w' lo hi b off x) k m b lo hi a w bs bad Q) (ho : Only (fun j => j = X.rb ∨ j = b) w w1) (hu : Upd b lo hi w w1) (h1 : lo ≤ lo') (h2 : hi' ≤ hi) :
    RQ X (dec mm.w) (fun w' lo hi x => Holds X.D mm w' lo hi b off x) k m b lo' hi' a w1 bs bad Q :=
  ⟨fun a' w' x bs' nn' p1 p2 p3 p4 p5 p6 p7 => hQ.good a' w' x bs' nn' p1 p2 p3 (ho.trans p4) (hu.trans (p5.mono h1 h2)) p6 (p7.wider ho.size (Nat.le_refl _)),
   fun a' w' p1 p2 p3 p4 p5 => hQ.fail a' w' p1 p2 (ho.trans p3) (hu.trans (p4.mono h1 h2)) p5, fun a' w' p1 p2 p3 p4 p5 => hQ.ret a' w' p1 p2 p3 (ho.trans p4) (hu.trans (p5.mono h1 h2))⟩

theorem gEl_reads (hX : XOk X) {TS sz eb as is D PT k m b n cap i : Nat} {zs : List Value} {ks : List (Nat × Bool)} {body : Code → Code} {mm : M} {c0 : Code} {a : Act} {w : World} {nn : Bool} {bs : List UInt8} {bad : Bool}
    (hst : St X a w nn bs bad) (hS : Sl X.P TS sz eb zs) (ha : gt a as = .slice (some ⟨b, 0, none⟩) n cap) (hi : gt a is = .int .i32 (i : Nat)) (hin : i < n) (hcap : n ≤ cap) (hb : Blk w b (cap * sz)) (hbr : b ≠ X.rb) (hbD : (X.L ≤ b ∧ b ≠ X.D))
    (hD : DefC X.P D sz (ks.map (·.1))) (hcs : Cells w b (i * sz) zs) (hzs : ∀ q ∈ ks, ∃ v, zs[q.1]? = some v ∧ isNilS q.2 v = true) (hak : as < k) (hik : is < k) (hk : k + 2 ≤ X.M0) (h9 : 9 ≤ X.b9 ∧ X.b9 < k) (hm : X.M0 ≤ m) (hN : m + 6 ≤ X.N)
    (hbody : ∀ c a1 w1 nn1, St X a1 w1 nn1 bs bad → gt a1 (k + 1) = .pointer (some ⟨b, i * sz, none⟩) → Blk w1 b (cap * sz) → (∀ q ∈ ks, w1.cell? ⟨b, i * sz + q.1, none⟩ = some (nilV q.2)) →
      Reads X (body c) (dec mm.w) (fun w' lo hi x => Holds X.D mm w' lo hi b (i * sz) x) (k + 2) (m + 6) b (i * sz) (i * sz + sz) a1 w1 bs bad) :
    Reads X (gEl TS as is D PT k m body c0) (dec mm.w) (fun w' lo hi x => Holds X.D mm w' lo hi b (i * sz) x) k m b (i * sz) (i * sz + sz) a w bs bad := by
  intro Q hQ
  have hrb := hst.rb_gt
  have hrl := hst.st.lt
  have hbl := hb.lt
  have hle : i * sz + sz ≤ cap * sz := by
    have : (i + 1) * sz ≤ cap * sz := Nat.mul_le_mul_right _ (by omega)
    rwa [Nat.add_mul, Nat.one_mul] at this
  refine wp_seq (wp_reg (wpC_val (runs_move _) ?_))
  have z0 : m < a.tmps.size := by rw [hst.size]; omega
  rw [evT, ha]
  have g1 := (Ag.refl (Ch X.M0 k m) a).put (d := m) (by unfold Ch; omega) z0 (.slice (some ⟨b, 0, none⟩) n cap)
  have e1 : gt (a.put (some m) (.slice (some ⟨b, 0, none⟩) n cap)) m = .slice (some ⟨b, 0, none⟩) n cap := by rw [gt_put z0, if_pos rfl]
  have i1 : gt (a.put (some m) (.slice (some ⟨b, 0, none⟩) n cap)) is = .int .i32 (i : Nat) := by rw [gt_put z0, if_neg (by omega)]; exact hi
  generalize a.put (some m) (.slice (some ⟨b, 0, none⟩) n cap) = a1 at g1 e1 i1
  refine wpC_val (runs_move _) ?_
  rw [evT, i1]
  have z1 : m + 1 < a1.tmps.size := by rw [g1.size, hst.size]; omega
  have g2 := g1.put (d := m + 1) (by unfold Ch; omega) z1 (.int .i32 (i : Nat))
  have e2 : gt (a1.put (some (m + 1)) (.int .i32 (i : Nat))) (m + 1) = .int .i32 (i : Nat) := by rw [gt_put z1, if_pos rfl]
  have e2b : gt (a1.put (some (m + 1)) (.int .i32 (i : Nat))) m = .slice (some ⟨b, 0, none⟩) n cap := by rw [gt_put z1, if_neg (by omega)]; exact e1
  generalize a1.put (some (m + 1)) (.int .i32 (i : Nat)) = a2 at g2 e2 e2b
  refine wpC_val (runs_indexAddr hS (p := ⟨b, 0, none⟩) e2b e2 (by omega) (by omega)) ?_
  rw [Addr.add_lit, Int.toNat_natCast, Nat.zero_add]
  have z2 : m + 2 < a2.tmps.size := by rw [g2.size, hst.size]; omega
  have g3 := g2.put (d := m + 2) (by unfold Ch; omega) z2 (.pointer (some ⟨b, i * sz, none⟩))
  have e3 : gt (a2.put (some (m + 2)) (.pointer (some ⟨b, i * sz, none⟩))) (m + 2) = .pointer (some ⟨b, i * sz, none⟩) := by rw [gt_put z2, if_pos rfl]
  generalize a2.put (some (m + 2)) (.pointer (some ⟨b, i * sz, none⟩)) = a3 at g3 e3
  refine wpC_val (runs_assign _) (wpC_nil ?_)
  rw [evT, e3]
  have z3 : k < a3.tmps.size := by rw [g3.size, hst.size]; omega
  have g4 := g3.put (d := k) (by unfold Ch; omega) z3 (.pointer (some ⟨b, i * sz, none⟩))
  have e4 : gt (a3.put (some k) (.pointer (some ⟨b, i * sz, none⟩))) k = .pointer (some ⟨b, i * sz, none⟩) := by rw [gt_put z3, if_pos rfl]
  generalize a3.put (some k) (.pointer (some ⟨b, i * sz, none⟩)) = a4 at g4 e4
  -- the defaults
  refine wp_seq (wp_reg (wpC_val (runs_move _) ?_))
  rw [evT, e4]
  have z4 : m + 3 < a4.tmps.size := by rw [g4.size, hst.size]; omega
  have g5 := g4.put (d := m + 3) (by unfold Ch; omega) z4 (.pointer (some ⟨b, i * sz, none⟩))
  have e5 : gt (a4.put (some (m + 3)) (.pointer (some ⟨b, i * sz, none⟩))) (m + 3) = .pointer (some ⟨b, i * sz, none⟩) := by rw [gt_put z4, if_pos rfl]
  have e5k : gt (a4.put (some (m + 3)) (.pointer (some ⟨b, i * sz, none⟩))) k = .pointer (some ⟨b, i * sz, none⟩) := by rw [gt_put z4, if_neg (by omega)]; exact e4
  generalize a4.put (some (m + 3)) (.pointer (some ⟨b, i * sz, none⟩)) = a5 at g5 e5 e5k
  have harg : (#[Operand.tmp (m + 3)] : Array Operand).map a5.eval = #[.pointer (some ⟨b, i * sz, none⟩)] := by
    simp only [gt] at e5
    simp [Act.eval, e5]
  refine wpC_call (R := fun _ w' => Only (· = b) w w' ∧ Upd b (i * sz) (i * sz + sz) w w' ∧ ∀ o ∈ ks.map (·.1), w'.cell? ⟨b, i * sz + o, none⟩ = w.cell? ⟨b, i * sz + o, none⟩) hD.1 (by rw [harg]; exact hD.2 w b (i * sz) (cap * sz) hb hle) ?_
  rintro v6 w6 ⟨o6, u6, k6⟩
  have z5 : m + 4 < a5.tmps.size := by rw [g5.size, hst.size]; omega
  have g6 := g5.put (d := m + 4) (by unfold Ch; omega) z5 v6
  have e6 : gt (a5.put (some (m + 4)) v6) k = .pointer (some ⟨b, i * sz, none⟩) := by rw [gt_put z5, if_neg (by omega)]; exact e5k
  generalize a5.put (some (m + 4)) v6 = a6 at g6 e6
  refine wpC_nil (wp_seq (gCopy_wp (by rw [g6.size, hst.size]; omega) (by rw [g6.size, hst.size]; omega) fun a7 g7 v7 => ?_))
  have f7 : Ag (Ch X.M0 k m) a a7 := g6.trans (g7.mono fun j hj => by unfold Ch; omega)
  rw [e6] at v7
  have st7 : St X a7 w6 nn bs bad := (hst.act f7 h9 (by omega) (by omega)).world (hst.st.keep (o6.block _ (by omega) (by omega)) (o6.block _ hrl (by omega))) (Nat.le_refl _) (o6.mono fun q _ e => by omega)
  refine hbody _ a7 w6 nn st7 v7 (u6.blk hb) (fun q hq => ?_) Q ?_
  · obtain ⟨v, hv, hnil⟩ := hzs q hq
    rw [k6 q.1 (List.mem_map_of_mem hq), hcs q.1 v hv, isNilS_eq hnil]
  · exact (hQ.act f7 (by omega) (by omega)).pre (nn := nn) (o6.mono fun q _ e => .inr e) u6 (Nat.le_refl _) (Nat.le_refl _)

theorem gInl_reads {T i o u n PT DF s k m b off N : Nat} {ks : List (Nat × Bool)} {body : Code → Code} {mm : M} {c0 : Code} {a : Act} {w : World} {nn : Bool} {bs : List UInt8} {bad : Bool}
    (hst : St X a w nn bs bad) (hs : gt a s = .pointer (some ⟨b, off, none⟩)) (hf : FieldAt X.P T i o u n) (hb : Blk w b N) (hn : off + o + n ≤ N) (hnil : ∀ q ∈ ks, w.cell? ⟨b, off + o + q.1, none⟩ = some (nilV q.2)) (hbr : b ≠ X.rb) (hbD : (X.L ≤ b ∧ b ≠ X.D))
    (hD : DefC X.P DF n (ks.map (·.1))) (hsk : s < k) (hk : k + 2 ≤ X.M0) (h9 : 9 ≤ X.b9 ∧ X.b9 < k) (hm : X.M0 ≤ m) (hN : m + 6 ≤ X.N)
    (hbody : ∀ c a1 w1 nn1, St X a1 w1 nn1 bs bad → gt a1 (k + 1) = .pointer (some ⟨b, off + o, none⟩) → Blk w1 b N → (∀ q ∈ ks, w1.cell? ⟨b, off + o + q.1, none⟩ = some (nilV q.2)) →
      Reads X (body c) (dec mm.w) (fun w' lo hi x => Holds X.D mm w' lo hi b (off + o) x) (k + 2) (m + 6) b (off + o) (off + o + n) a1 w1 bs bad) :
    Reads X (gInl T i PT DF s k m body c0) (dec mm.w) (fun w' lo hi x => Holds X.D mm w' lo hi b (off + o) x) k m b (off + o) (off + o + n) a w bs bad := by
  intro Q hQ
  have hrb := hst.rb_gt
  have hrl := hst.st.lt
  have hsz := hst.size
  refine wp_seq (gAdr_wp hs hf (by omega) (by omega) fun a1 g1 v1 => ?_)
  have f1 : Ag (Ch X.M0 k m) a a1 := g1.mono fun j hj => by unfold Ch; omega
  refine wp_seq (gDefo_wp hD v1 hb hn (by omega) (by rw [g1.size]; omega) fun a2 w2 g2 o2 u2 k2 => ?_)
  have f2 : Ag (Ch X.M0 k m) a a2 := f1.trans (g2.mono fun j hj => by unfold Ch; omega)
  have v2 : gt a2 k = .pointer (some ⟨b, off + o, none⟩) := (g2.keep k (by omega)).trans v1
  refine wp_seq (gCopy_wp (by rw [f2.size]; omega) (by rw [f2.size]; omega) fun a3 g3 v3 => ?_)
  rw [v2] at v3
  have f3 : Ag (Ch X.M0 k m) a a3 := f2.trans (g3.mono fun j hj => by unfold Ch; omega)
  have st3 : St X a3 w2 nn bs bad := (hst.act f3 h9 (by omega) (by omega)).world (hst.st.keep (o2.block _ (by omega) (by omega)) (o2.block _ hrl (by omega))) (Nat.le_refl _) (o2.mono fun q _ e => by omega)
  refine hbody _ a3 w2 nn st3 v3 (u2.blk hb) (fun q hq => ?_) Q ?_
  · rw [k2 q.1 (List.mem_map_of_mem hq)]; exact hnil q hq
  · exact (hQ.act f3 (by omega) (by omega)).pre (nn := nn) (o2.mono fun q _ e => .inr e) u2 (Nat.le_refl _) (Nat.le_refl _)

theorem gTags_reads (hX : XOk X) {F T i o u s k m b off N : Nat} {c0 : Code} {a : Act} {w : World} {nn : Bool} {bs : List UInt8} {bad : Bool} (hfx : X.fx = true) (hfl : X.flex = true) (hF : RdC X.P F .tags) (hst : St X a w nn bs bad)
    (hs : gt a s = .pointer (some ⟨b, off, none⟩)) (hf : FieldAt X.P T i o u 1) (hb : Blk w b N) (hn : off + o + 1 ≤ N) (hbr : b ≠ X.rb) (hbD : (X.L ≤ b ∧ b ≠ X.D)) (h9 : 9 ≤ X.b9 ∧ X.b9 < k) (hsk : s < k) (hk : k ≤ X.M0) (hm : X.M0 ≤ m) (hN : m + 5 ≤ X.N) :
    Reads X (gTags X.G F T i u s m c0) (dec M.tags.w) (fun w' lo hi x => Holds X.D .tags w' lo hi b (off + o) x) k m b (off + o) (off + o + 1) a w bs bad := by
  intro Q hQ
  have hM := hX.N0
  have hrb := hst.rb_gt
  have hbl := hb.lt
  have z0 : m < a.tmps.size := by rw [hst.size]; omega
  refine wp_seq (gMove_wp (X := X) z0 ?_)
  have g1 := (Ag.refl (Ch X.M0 (m + 2) m) a).put (d := m) (by unfold Ch; omega) z0 (gt a 9)
  have e1 : gt (a.put (some m) (gt a 9)) m = .bool true := by rw [gt_put z0, if_pos rfl, hst.fl hfx, hfl]
  generalize a.put (some m) (gt a 9) = a1 at g1 e1
  refine wp_cond_true e1 (wp_reg (wpC_val (runs_move _) ?_))
  have z1 : m + 1 < a1.tmps.size := by rw [g1.size, hst.size]; omega
  rw [evT, show gt a1 s = .pointer (some ⟨b, off, none⟩) from (g1.keep s (by unfold Ch; omega)).trans hs]
  have g2 := g1.put (d := m + 1) (by unfold Ch; omega) z1 (.pointer (some ⟨b, off, none⟩))
  have e2 : gt (a1.put (some (m + 1)) (.pointer (some ⟨b, off, none⟩))) (m + 1) = .pointer (some ⟨b, off, none⟩) := by rw [gt_put z1, if_pos rfl]
  generalize a1.put (some (m + 1)) (.pointer (some ⟨b, off, none⟩)) = a2 at g2 e2
  have st2 := hst.act g2 (by omega) (by omega) (by omega)
  refine wpC_call (R := fun v w' => v.cells.size = RK.tags.n ∧ (∀ c ∈ v.cells.toList, c.oneCell' = true) ∧ Only (· = X.rb) w w' ∧ Comes1 X.D X.rb bs bad w' RK.tags.dec (fun x => RK.tags.leaf X.D w' w.heap.size w'.heap.size v.cells.toList x)) hF.1 (by rw [argRd st2]; exact hF.2 X.D X.rb w nn bs bad hst.st hst.lim) ?_
  rintro v w1 ⟨hv1, hv2, ho1, hc1⟩
  have z2 : m + 2 < a2.tmps.size := by rw [g2.size, hst.size]; omega
  have g3 := g2.put (d := m + 2) (by unfold Ch; omega) z2 v
  have e3 : gt (a2.put (some (m + 2)) v) (m + 2) = v := by rw [gt_put z2, if_pos rfl]
  have e3b : gt (a2.put (some (m + 2)) v) (m + 1) = .pointer (some ⟨b, off, none⟩) := by rw [gt_put z2, if_neg (by omega)]; exact e2
  generalize a2.put (some (m + 2)) v = a3 at g3 e3 e3b
  refine wpC_val (runs_nilCheck (p := ⟨b, off, none⟩) e3b) ?_
  have z3 : m + 3 < a3.tmps.size := by rw [g3.size, hst.size]; omega
  have g4 := g3.put (d := m + 3) (by unfold Ch; omega) z3 (.pointer (some ⟨b, off, none⟩))
  have e4 : gt (a3.put (some (m + 3)) (.pointer (some ⟨b, off, none⟩))) (m + 3) = .pointer (some ⟨b, off, none⟩) := by rw [gt_put z3, if_pos rfl]
  have e4b : gt (a3.put (some (m + 3)) (.pointer (some ⟨b, off, none⟩))) (m + 2) = v := by rw [gt_put z3, if_neg (by omega)]; exact e3
  generalize a3.put (some (m + 3)) (.pointer (some ⟨b, off, none⟩)) = a4 at g4 e4 e4b
  refine wpC_val (runs_fieldAddr hf (p := ⟨b, off, none⟩) e4) ?_
  rw [Addr.add_lit]
  have z4 : m + 4 < a4.tmps.size := by rw [g4.size, hst.size]; omega
  have g5 := g4.put (d := m + 4) (by unfold Ch; omega) z4 (.pointer (some ⟨b, off + o, none⟩))
  have e5 : gt (a4.put (some (m + 4)) (.pointer (some ⟨b, off + o, none⟩))) (m + 4) = .pointer (some ⟨b, off + o, none⟩) := by rw [gt_put z4, if_pos rfl]
  have e5b : gt (a4.put (some (m + 4)) (.pointer (some ⟨b, off + o, none⟩))) (m + 2) = v := by rw [gt_put z4, if_neg (by omega)]; exact e4b
  generalize a4.put (some (m + 4)) (.pointer (some ⟨b, off + o, none⟩)) = a5 at g5 e5 e5b
  have hvs : v.cells.size = 1 := hv1
  obtain ⟨w2, hr, hw⟩ := runs_storeN (P := X.P) (a := a5) (w := w1) (u := u) (x := .tmp (m + 4)) (y := .tmp (m + 2)) (b := b) (o := off + o) (n := N) (v := v) e5 e5b (by obtain ⟨inf, hi, hz⟩ := hf.sz; exact ⟨inf, hi, hz.trans hvs.symm⟩) hv2 (hb.keep (ho1.block b hbl hbr)) (by omega)
  refine wpC_skip hr (wpC_nil ?_)
  have g : Got X none .tags (m + 2) (m + 2) m a w bs bad a5 w1 v := ⟨g5, e5b, hv1, hv2, ho1, hc1⟩
  obtain ⟨h1, h2, h3, h4⟩ := g.store hst hw hbl hbr hbD
  have hlen : v.cells.toList.length = 1 := by simpa using hvs
  rw [hlen] at h2
  have hag : Ag (Ch X.M0 k m) a a5 := g5.ch (by omega) (Nat.le_refl _)
  have hst2 := hst.act hag h9 (by omega) (by omega)
  rcases h4 with ⟨hbad, x, bs', hd, hl, hx, nn', hr⟩ | ⟨hbad, hr⟩
  · exact hQ.good a5 w2 x bs' nn' hbad hd hag h1 h2 (hst2.world hr hl h3) hx
  · exact hQ.fail a5 w2 hbad hag h1 h2 (hst2.world hr (by simp) h3)

theorem RV.n_flex (v : RV) (f g : Bool) : (v.rk f).n = (v.rk g).n := by cases v <;> rfl
theorem RK.cells_le (k : RK) : k.m.cells ≤ k.n := Nat.le_refl _

theorem R.nils_ge {P : Program} {fx : Bool} : ∀ {r : R} {T lo hi : Nat}, r.ok P fx T lo hi → (∀ q ∈ r.nils, lo ≤ q.1) ∧ lo ≤ hi := by
  intro r
  induction r with
  | done => intro T lo hi h; exact ⟨fun q hq => by simp [R.nils] at hq, h⟩
  | val c i o u v r ih =>
    intro T lo hi h
    obtain ⟨h1, h2, h3, h4⟩ := h
    obtain ⟨a1, a2⟩ := ih h4
    exact ⟨fun q hq => by have := a1 q hq; omega, by omega⟩
  | arrV c i o TS eb zs l nl u v r ih =>
    intro T lo hi h
    obtain ⟨h1, h2, h3, h4, h5, h6, h7, h8, h9⟩ := h
    obtain ⟨a1, a2⟩ := ih h9
    refine ⟨fun q hq => ?_, by omega⟩
    simp only [R.nils, List.mem_cons] at hq
    rcases hq with rfl | hq
    · exact h1
    · have := a1 q hq; omega
  | arrS c i o TS eb zs l nl D PT T' b r _ ih =>
    intro T lo hi h
    obtain ⟨h1, h2, h3, h4, h5, h6, h7, h8, h9⟩ := h
    obtain ⟨a1, a2⟩ := ih h9
    refine ⟨fun q hq => ?_, by omega⟩
    simp only [R.nils, List.mem_cons] at hq
    rcases hq with rfl | hq
    · exact h1
    · have := a1 q hq; omega
  | optS c i o PT ti FI DF T' zs b r _ ih =>
    intro T lo hi h
    obtain ⟨h1, h2, h3, h4, h5, h6, h7, h8, h9⟩ := h
    obtain ⟨a1, a2⟩ := ih h9
    refine ⟨fun q hq => ?_, by omega⟩
    simp only [R.nils, List.mem_cons] at hq
    rcases hq with rfl | hq
    · exact h1
    · have := a1 q hq; omega
  | inl c i o u n PT DF T' b r _ ih =>
    intro T lo hi h
    obtain ⟨h1, h2, h3, h4, h5⟩ := h
    obtain ⟨a1, a2⟩ := ih h5
    refine ⟨fun q hq => ?_, by omega⟩
    simp only [R.nils, List.mem_append, List.mem_map] at hq
    rcases hq with ⟨p, _, rfl⟩ | hq
    · show lo ≤ o + p.1
      omega
    · have := a1 q hq; omega
  | vv c i o u st cv uc sc up sp vc wc vp wp r ih =>
    intro T lo hi h
    obtain ⟨h1, h2, h3, h4, h5, h6, h7⟩ := h
    obtain ⟨a1, a2⟩ := ih h7
    exact ⟨fun q hq => by have := a1 q hq; omega, by omega⟩
  | tags i o u F r ih =>
    intro T lo hi h
    obtain ⟨h1, h2, h3, h4, h5⟩ := h
    obtain ⟨a1, a2⟩ := ih h5
    exact ⟨fun q hq => by have := a1 q hq; omega, by omega⟩

theorem R.cells_le {P : Program} {fx : Bool} {ver : Int} {flex : Bool} : ∀ {r : R} {T lo hi : Nat}, r.ok P fx T lo hi → (r.m ver flex).cells ≤ hi := by
  intro r
  induction r with
  | done => intro T lo hi h; simp [R.m, M.cells]
  | val c i o u v r ih =>
    intro T lo hi h
    obtain ⟨h1, h2, h3, h4⟩ := h
    have a1 := ih h4
    have a2 := (R.nils_ge h4).2
    have a3 := RV.n_flex v flex true
    simp only [R.m]
    split
    · simp only [M.cells]
      have : (v.rk flex).m.cells = (v.rk flex).n := rfl
      omega
    · exact a1
  | arrV c i o TS eb zs l nl u v r ih =>
    intro T lo hi h
    obtain ⟨h1, h2, h3, h4, h5, h6, h7, h8, h9⟩ := h
    have a1 := ih h9
    have a2 := (R.nils_ge h9).2
    simp only [R.m]
    split
    · simp only [M.cells]; omega
    · exact a1
  | arrS c i o TS eb zs l nl D PT T' b r _ ih =>
    intro T lo hi h
    obtain ⟨h1, h2, h3, h4, h5, h6, h7, h8, h9⟩ := h
    have a1 := ih h9
    have a2 := (R.nils_ge h9).2
    simp only [R.m]
    split
    · simp only [M.cells]; omega
    · exact a1
  | optS c i o PT ti FI DF T' zs b r _ ih =>
    intro T lo hi h
    obtain ⟨h1, h2, h3, h4, h5, h6, h7, h8, h9⟩ := h
    have a1 := ih h9
    have a2 := (R.nils_ge h9).2
    simp only [R.m]
    split
    · simp only [M.cells]; omega
    · exact a1
  | inl c i o u n PT DF T' b r ihb ih =>
    intro T lo hi h
    obtain ⟨h1, h2, h3, h4, h5⟩ := h
    have a1 := ih h5
    have a2 := (R.nils_ge h5).2
    have a3 := ihb h4
    simp only [R.m]
    split
    · simp only [M.cells]; omega
    · exact a1
  | vv c i o u st cv uc sc up sp vc wc vp wp r ih =>
    intro T lo hi h
    obtain ⟨h1, h2, h3, h4, h5, h6, h7⟩ := h
    have a1 := ih h7
    have a2 := (R.nils_ge h7).2
    simp only [R.m]
    split
    · split <;> simp only [M.cells] <;> omega
    · exact a1
  | tags i o u F r ih =>
    intro T lo hi h
    obtain ⟨h1, h2, h3, h4, h5⟩ := h
    have a1 := ih h5
    have a2 := (R.nils_ge h5).2
    simp only [R.m]
    split
    · simp only [M.cells]; omega
    · exact a1

/-- What a part's reading asks of the place where it begins. -/
structure At (X : RX) (r : R) (T s k m b off N lo hi : Nat) (a : Act) (w : World) (nn : Bool) (bs : List UInt8) (bad : Bool) : Prop where
  st : St X a w nn bs bad
  sp : gt a s = .pointer (some ⟨b, off, none⟩)
  blk : Blk w b N
  room : off + hi ≤ N
  nil : ∀ q ∈ r.nils, w.cell? ⟨b, off + q.1, none⟩ = some (nilV q.2)
  nrb : b ≠ X.rb
  nD : (X.L ≤ b ∧ b ≠ X.D)
  k9 : 9 ≤ X.b9 ∧ X.b9 < k
  sk : s < k
  kM : k + r.k ≤ X.M0
  m0 : X.M0 ≤ m
  mN : m + r.t ≤ X.N

/-- The same behind a field. -/
theorem At.next {r r2 : R} {T s k m b off N lo hi k2 m2 lo1 hi1 : Nat} {a a1 : Act} {w w1 : World} {nn nn1 : Bool} {bs bs1 : List UInt8} {bad bad1 : Bool} (h : At X r T s k m b off N lo hi a w nn bs bad) (hag : Ag (Ch X.M0 k m) a a1)
    (ho : Only (fun j => j = X.rb ∨ j = b) w w1) (hu : Upd b lo1 hi1 w w1) (hst : St X a1 w1 nn1 bs1 bad1) (hn2 : ∀ q ∈ r2.nils, q ∈ r.nils ∧ hi1 ≤ off + q.1) (hk : k ≤ k2) (hkM : k2 + r2.k ≤ X.M0) (hm : m ≤ m2) (hmN : m2 + r2.t ≤ X.N) : At X r2 T s k2 m2 b off N lo hi a1 w1 nn1 bs1 bad1 := by
  have h1 := h.sk
  have h2 := h.m0
  have h3 := h.kM
  have h4 := h.k9
  exact ⟨hst, (hag.keep s (by unfold Ch; omega)).trans h.sp, hu.blk h.blk, h.room, fun q hq => by
    obtain ⟨q1, q2⟩ := hn2 q hq
    rw [hu.cell h.blk (.inr q2)]; exact h.nil q q1, h.nrb, h.nD, by omega, by omega, hkM, by omega, hmN⟩

theorem isDone_eq {r : R} (h : r.isDone = true) : r = .done := by cases r <;> first | rfl | cases h

/-- THE THEOREM. -/
theorem R_reads (hX : XOk X) : ∀ (r : R) (T s k m b off N lo hi : Nat) (tail : Option (Code → Code)) (c0 : Code) (a : Act) (w : World) (nn : Bool) (bs : List UInt8) (bad : Bool),
    r.ok X.P X.fx T lo hi → At X r T s k m b off N lo hi a w nn bs bad →
    ∀ Q, RQ X (dec (r.m X.ver X.flex).w) (fun w' lo hi x => Holds X.D (r.m X.ver X.flex) w' lo hi b off x) k m b (off + lo) (off + hi) a w bs bad (tq X.P tail Q) → (gR X.G r T s k m tail c0).wp X.P Q a w := by
  intro r
  induction r with
  | done =>
    intro T s k m b off N lo hi tail c0 a w nn bs bad hr hA Q hQ
    have := RQ.unit hA.st (hQ : RQ X (dec M.unit.w) _ k m b (off + lo) (off + hi) a w bs bad _)
    cases tail with
    | none => exact wp_skip this
    | some t => exact this c0
  | val c i o u v r ih =>
    intro T s k m b off N lo hi tail c0 a w nn bs bad hr hA Q hQ
    obtain ⟨h1, h2, h3, h4⟩ := hr
    have hM := hX.N0
    have hk := hA.kM
    have hm := hA.mN
    have hm0 := hA.m0
    have hk9 := hA.k9
    have hsk := hA.sk
    have hnN := hA.room
    simp only [R.k] at hk
    have hkn := v.kn_pos
    simp only [R.t] at hm
    have hrh := (R.nils_ge h4)
    have hnf := RV.n_flex v X.flex true
    have hlast : (r.isDone && tail.isNone) = true → tail = none ∧ r.m X.ver X.flex = .unit := by
      intro h
      rw [Bool.and_eq_true] at h
      rw [isDone_eq h.1]
      exact ⟨Option.isNone_iff_eq_none.1 h.2, rfl⟩
    simp only [R.m] at hQ
    cases hc : c.holds X.ver with
    | true =>
      rw [hc, if_pos rfl] at hQ
      refine R_step (k2 := k + v.kn) (m2 := m + (c.t + (v.t + 4))) (n := (v.rk X.flex).n) (N := N) hA.st hA.blk hA.nrb hA.nD (by omega) (by omega) h1 (Nat.le_refl _) (by omega) (fun c1 => gCond_reads hA.st (by omega) (by omega) hc fun c2 a' ha => ?_) hlast (fun _ a1 w1 nn1 bs1 bad1 p1 p2 p3 p4 c1 Q1 hQ1 => ?_) hQ
      · have ha' : Ag (Ch X.M0 k m) a a' := ha.mono fun j hj => by unfold Ch; omega
        exact fVal_reads v h2 (hA.st.act ha' hk9 (by omega) (by omega)) ((ha'.keep s (by unfold Ch; omega)).trans hA.sp) (h3 X.flex) hA.blk (by omega) hA.nrb hA.nD hk9 hsk (by omega) (by omega) (by omega)
      · rw [hnf] at hQ1
        exact ih T s (k + v.kn) (m + (c.t + (v.t + 4))) b off N (o + (v.rk true).n) hi tail c1 a1 w1 nn1 bs1 bad1 h4 (by
          have hx := hA.next (r2 := r) (k2 := k + v.kn) (m2 := m + (c.t + (v.t + 4))) p1 p2 p3 p4 (fun q hq => ⟨hq, by have := hrh.1 q hq; omega⟩) (by omega) (by omega) (by omega) (by omega)
          exact ⟨hx.st, hx.sp, hx.blk, hx.room, hx.nil, hx.nrb, hx.nD, hx.k9, hx.sk, hx.kM, hx.m0, hx.mN⟩) Q1 hQ1
    | false =>
      rw [hc, if_neg (by decide)] at hQ
      refine R_skip (k2 := k + v.kn) (m2 := m + (c.t + (v.t + 4))) (lo2 := o + (v.rk true).n) hA.st (by omega) (by omega) (by omega) hk9 (by omega) (by omega) (fun c1 Q1 h => gCond_wp hA.st.ver (by omega) (by rw [hA.st.size]; omega) (fun hy => by rw [hc] at hy; cases hy) fun _ a' ha => h a' (ha.mono fun j hj => by unfold Ch; omega)) hlast
        (fun _ a1 p1 p4 c1 Q1 hQ1 => ih T s (k + v.kn) (m + (c.t + (v.t + 4))) b off N (o + (v.rk true).n) hi tail c1 a1 w nn bs bad h4 (by
          have hx := hA.next (r2 := r) (k2 := k + v.kn) (m2 := m + (c.t + (v.t + 4))) (lo1 := 0) (hi1 := 0) p1 (Only.refl _ _) (Upd.same rfl) p4 (fun q hq => ⟨hq, by omega⟩) (by omega) (by omega) (by omega) (by omega)
          exact ⟨hx.st, hx.sp, hx.blk, hx.room, hx.nil, hx.nrb, hx.nD, hx.k9, hx.sk, hx.kM, hx.m0, hx.mN⟩) Q1 hQ1) hQ
  | arrV c i o TS eb zs l nl u v r ih =>
    intro T s k m b off N lo hi tail c0 a w nn bs bad hr hA Q hQ
    obtain ⟨h1, h2, h3, h4, h5, h6, h7, h8, hr9⟩ := hr
    have hM := hX.N0
    have hk := hA.kM
    have hm := hA.mN
    have hm0 := hA.m0
    have hk9 := hA.k9
    have hsk := hA.sk
    have hnN := hA.room
    simp only [R.k] at hk
    have hkn := v.kn_pos
    simp only [R.t] at hm
    have hrh := (R.nils_ge hr9)
    have hlast : (r.isDone && tail.isNone) = true → tail = none ∧ r.m X.ver X.flex = .unit := by
      intro h
      rw [Bool.and_eq_true] at h
      rw [isDone_eq h.1]
      exact ⟨Option.isNone_iff_eq_none.1 h.2, rfl⟩
    have hnils : ∀ q ∈ r.nils, q ∈ (R.arrV c i o TS eb zs l nl u v r).nils := fun q hq => by simp only [R.nils, List.mem_cons]; exact .inr hq
    simp only [R.m] at hQ
    cases hc : c.holds X.ver with
    | true =>
      rw [hc, if_pos rfl] at hQ
      refine R_step (k2 := k + (4 + v.kn)) (m2 := m + (c.t + arrT l nl (v.t + 4))) (n := 1) (N := N) hA.st hA.blk hA.nrb hA.nD (by omega) (by omega) h1 (Nat.le_refl _) (by omega) (fun c1 => gCond_reads hA.st (by omega) (by omega) hc fun c2 a' ha => ?_) hlast (fun _ a1 w1 nn1 bs1 bad1 p1 p2 p3 p4 c1 Q1 hQ1 => ?_) hQ
      · have ha' : Ag (Ch X.M0 k m) a a' := ha.mono fun j hj => by unfold Ch; omega
        refine arr_reads hX (u := u) h3 (hA.st.act ha' hk9 (by omega) (by omega)) ((ha'.keep s (by unfold Ch; omega)).trans hA.sp) h4 h5 h6 (by have := h8 X.flex; exact Nat.le_of_eq this) hA.blk (by omega) (hA.nil (o, false) (by simp [R.nils])) hA.nrb hA.nD hk9 hsk (by omega) (by omega) (by omega) ?_
        intro A cap n hAD hAr c3 a3 w3 nn3 bs3 bad3 i3 hi3 st3 q1 q2 q3 q4 q5
        have hle : i3 * zs.length + zs.length ≤ cap * zs.length := by
          have : (i3 + 1) * zs.length ≤ cap * zs.length := Nat.mul_le_mul_right _ (by omega)
          rwa [Nat.add_mul, Nat.one_mul] at this
        unfold arrT at hm
        exact eVal_reads v h5 h2 st3 q1 q2 hi3 h7 (h8 _) q4 hle hAr hAD (by omega) (by omega) (by omega) (by omega) (by omega) (by omega)
      · exact ih T s (k + (4 + v.kn)) (m + (c.t + arrT l nl (v.t + 4))) b off N (o + 1) hi tail c1 a1 w1 nn1 bs1 bad1 hr9 (by
          have hx := hA.next (r2 := r) (k2 := k + (4 + v.kn)) (m2 := m + (c.t + arrT l nl (v.t + 4))) p1 p2 p3 p4 (fun q hq => ⟨hnils q hq, by have := hrh.1 q hq; omega⟩) (by omega) (by omega) (by omega) (by omega)
          exact ⟨hx.st, hx.sp, hx.blk, hx.room, hx.nil, hx.nrb, hx.nD, hx.k9, hx.sk, hx.kM, hx.m0, hx.mN⟩) Q1 hQ1
    | false =>
      rw [hc, if_neg (by decide)] at hQ
      refine R_skip (k2 := k + (4 + v.kn)) (m2 := m + (c.t + arrT l nl (v.t + 4))) (lo2 := o + 1) hA.st (by omega) (by omega) (by omega) hk9 (by omega) (by omega) (fun c1 Q1 h => gCond_wp hA.st.ver (by omega) (by rw [hA.st.size]; omega) (fun hy => by rw [hc] at hy; cases hy) fun _ a' ha => h a' (ha.mono fun j hj => by unfold Ch; omega)) hlast
        (fun _ a1 p1 p4 c1 Q1 hQ1 => ih T s (k + (4 + v.kn)) (m + (c.t + arrT l nl (v.t + 4))) b off N (o + 1) hi tail c1 a1 w nn bs bad hr9 (by
          have hx := hA.next (r2 := r) (k2 := k + (4 + v.kn)) (m2 := m + (c.t + arrT l nl (v.t + 4))) (lo1 := 0) (hi1 := 0) p1 (Only.refl _ _) (Upd.same rfl) p4 (fun q hq => ⟨hnils q hq, by omega⟩) (by omega) (by omega) (by omega) (by omega)
          exact ⟨hx.st, hx.sp, hx.blk, hx.room, hx.nil, hx.nrb, hx.nD, hx.k9, hx.sk, hx.kM, hx.m0, hx.mN⟩) Q1 hQ1) hQ
  | arrS c i o TS eb zs l nl D PT T' b' r ihb ih =>
    intro T s k m b off N lo hi tail c0 a w nn bs bad hr hA Q hQ
    obtain ⟨h1, h3, h4, h5, h6, h7, h8, hb9, hr9⟩ := hr
    have hM := hX.N0
    have hk := hA.kM
    have hm := hA.mN
    have hm0 := hA.m0
    have hk9 := hA.k9
    have hsk := hA.sk
    have hnN := hA.room
    simp only [R.k] at hk
    simp only [R.t] at hm
    have hrh := (R.nils_ge hr9)
    have hlast : (r.isDone && tail.isNone) = true → tail = none ∧ r.m X.ver X.flex = .unit := by
      intro h
      rw [Bool.and_eq_true] at h
      rw [isDone_eq h.1]
      exact ⟨Option.isNone_iff_eq_none.1 h.2, rfl⟩
    have hnils : ∀ q ∈ r.nils, q ∈ (R.arrS c i o TS eb zs l nl D PT T' b' r).nils := fun q hq => by simp only [R.nils, List.mem_cons]; exact .inr hq
    simp only [R.m] at hQ
    cases hc : c.holds X.ver with
    | true =>
      rw [hc, if_pos rfl] at hQ
      refine R_step (k2 := k + (6 + b'.k)) (m2 := m + (c.t + arrT l nl (6 + b'.t))) (n := 1) (N := N) hA.st hA.blk hA.nrb hA.nD (by omega) (by omega) h1 (Nat.le_refl _) (by omega) (fun c1 => gCond_reads hA.st (by omega) (by omega) hc fun c2 a' ha => ?_) hlast (fun _ a1 w1 nn1 bs1 bad1 p1 p2 p3 p4 c1 Q1 hQ1 => ?_) hQ
      · have ha' : Ag (Ch X.M0 k m) a a' := ha.mono fun j hj => by unfold Ch; omega
        refine arr_reads hX (u := 0) h3 (hA.st.act ha' hk9 (by omega) (by omega)) ((ha'.keep s (by unfold Ch; omega)).trans hA.sp) h4 h5 h6 (R.cells_le hb9) hA.blk (by omega) (hA.nil (o, false) (by simp [R.nils])) hA.nrb hA.nD hk9 hsk (by omega) (by omega) (by omega) ?_
        intro A cap n hAD hAr c3 a3 w3 nn3 bs3 bad3 i3 hi3 st3 q1 q2 q3 q4 q5
        have hle : i3 * zs.length + zs.length ≤ cap * zs.length := by
          have : (i3 + 1) * zs.length ≤ cap * zs.length := Nat.mul_le_mul_right _ (by omega)
          rwa [Nat.add_mul, Nat.one_mul] at this
        unfold arrT at hm
        refine gEl_reads hX st3 h5 q1 q2 hi3 q3 q4 hAr hAD h7 q5 h8 (by omega) (by omega) (by omega) (by omega) (by omega) (by omega) ?_
        intro c4 a4 w4 nn4 st4 p1 p2 p3 Q4 hQ4
        exact ihb T' (k + 5) (k + 6) (m + c.t + 5 + l.t + nullT nl + 10 + 5 + 6) A (i3 * zs.length) (cap * zs.length) 0 zs.length none c4 a4 w4 nn4 bs3 bad3 hb9 ⟨st4, p1, p2, by omega, p3, hAr, hAD, by omega, by omega, by omega, by omega, by omega⟩ Q4 hQ4
      · exact ih T s (k + (6 + b'.k)) (m + (c.t + arrT l nl (6 + b'.t))) b off N (o + 1) hi tail c1 a1 w1 nn1 bs1 bad1 hr9 (by
          have hx := hA.next (r2 := r) (k2 := k + (6 + b'.k)) (m2 := m + (c.t + arrT l nl (6 + b'.t))) p1 p2 p3 p4 (fun q hq => ⟨hnils q hq, by have := hrh.1 q hq; omega⟩) (by omega) (by omega) (by omega) (by omega)
          exact ⟨hx.st, hx.sp, hx.blk, hx.room, hx.nil, hx.nrb, hx.nD, hx.k9, hx.sk, hx.kM, hx.m0, hx.mN⟩) Q1 hQ1
    | false =>
      rw [hc, if_neg (by decide)] at hQ
      refine R_skip (k2 := k + (6 + b'.k)) (m2 := m + (c.t + arrT l nl (6 + b'.t))) (lo2 := o + 1) hA.st (by omega) (by omega) (by omega) hk9 (by omega) (by omega) (fun c1 Q1 h => gCond_wp hA.st.ver (by omega) (by rw [hA.st.size]; omega) (fun hy => by rw [hc] at hy; cases hy) fun _ a' ha => h a' (ha.mono fun j hj => by unfold Ch; omega)) hlast
        (fun _ a1 p1 p4 c1 Q1 hQ1 => ih T s (k + (6 + b'.k)) (m + (c.t + arrT l nl (6 + b'.t))) b off N (o + 1) hi tail c1 a1 w nn bs bad hr9 (by
          have hx := hA.next (r2 := r) (k2 := k + (6 + b'.k)) (m2 := m + (c.t + arrT l nl (6 + b'.t))) (lo1 := 0) (hi1 := 0) p1 (Only.refl _ _) (Upd.same rfl) p4 (fun q hq => ⟨hnils q hq, by omega⟩) (by omega) (by omega) (by omega) (by omega)
          exact ⟨hx.st, hx.sp, hx.blk, hx.room, hx.nil, hx.nrb, hx.nD, hx.k9, hx.sk, hx.kM, hx.m0, hx.mN⟩) Q1 hQ1) hQ
  | optS c i o PT ti FI DF T' zs b' r ihb ih =>
    intro T s k m b off N lo hi tail c0 a w nn bs bad hr hA Q hQ
    obtain ⟨h1, h2, h3, h4, h5, h6, h7, hb9, hr9⟩ := hr
    have hM := hX.N0
    have hk := hA.kM
    have hm := hA.mN
    have hm0 := hA.m0
    have hk9 := hA.k9
    have hsk := hA.sk
    have hnN := hA.room
    simp only [R.k] at hk
    simp only [R.t] at hm
    have hrh := (R.nils_ge hr9)
    have hlast : (r.isDone && tail.isNone) = true → tail = none ∧ r.m X.ver X.flex = .unit := by
      intro h
      rw [Bool.and_eq_true] at h
      rw [isDone_eq h.1]
      exact ⟨Option.isNone_iff_eq_none.1 h.2, rfl⟩
    have hnils : ∀ q ∈ r.nils, q ∈ (R.optS c i o PT ti FI DF T' zs b' r).nils := fun q hq => by simp only [R.nils, List.mem_cons]; exact .inr hq
    simp only [R.m] at hQ
    cases hc : c.holds X.ver with
    | true =>
      rw [hc, if_pos rfl] at hQ
      refine R_step (k2 := k + (3 + b'.k)) (m2 := m + (c.t + (17 + b'.t))) (n := 1) (N := N) hA.st hA.blk hA.nrb hA.nD (by omega) (by omega) h1 (Nat.le_refl _) (by omega) (fun c1 => gCond_reads hA.st (by omega) (by omega) hc fun c2 a' ha => ?_) hlast (fun _ a1 w1 nn1 bs1 bad1 p1 p2 p3 p4 c1 Q1 hQ1 => ?_) hQ
      · have ha' : Ag (Ch X.M0 k m) a a' := ha.mono fun j hj => by unfold Ch; omega
        refine gOpt_reads h2 hX.ok h6 h5 rfl h7 (hA.st.act ha' hk9 (by omega) (by omega)) ((ha'.keep s (by unfold Ch; omega)).trans hA.sp) h3 h4 hA.blk (by omega) (hA.nil (o, true) (by simp [R.nils])) hA.nrb hA.nD hk9 hsk (by omega) (by omega) (by omega) ?_
        intro q hqr hqD c3 a3 w3 nn3 bs3 st3 q1 q2 q3 Q4 hQ4
        exact ihb T' (k + 2) (k + 3) (m + c.t + 17) q 0 zs.length 0 zs.length none c3 a3 w3 nn3 bs3 false hb9 ⟨st3, q1, q2, by omega, q3, hqr, hqD, by omega, by omega, by omega, by omega, by omega⟩ Q4 (by simp only [Nat.zero_add]; exact hQ4)
      · exact ih T s (k + (3 + b'.k)) (m + (c.t + (17 + b'.t))) b off N (o + 1) hi tail c1 a1 w1 nn1 bs1 bad1 hr9 (by
          have hx := hA.next (r2 := r) (k2 := k + (3 + b'.k)) (m2 := m + (c.t + (17 + b'.t))) p1 p2 p3 p4 (fun q hq => ⟨hnils q hq, by have := hrh.1 q hq; omega⟩) (by omega) (by omega) (by omega) (by omega)
          exact ⟨hx.st, hx.sp, hx.blk, hx.room, hx.nil, hx.nrb, hx.nD, hx.k9, hx.sk, hx.kM, hx.m0, hx.mN⟩) Q1 hQ1
    | false =>
      rw [hc, if_neg (by decide)] at hQ
      refine R_skip (k2 := k + (3 + b'.k)) (m2 := m + (c.t + (17 + b'.t))) (lo2 := o + 1) hA.st (by omega) (by omega) (by omega) hk9 (by omega) (by omega) (fun c1 Q1 h => gCond_wp hA.st.ver (by omega) (by rw [hA.st.size]; omega) (fun hy => by rw [hc] at hy; cases hy) fun _ a' ha => h a' (ha.mono fun j hj => by unfold Ch; omega)) hlast
        (fun _ a1 p1 p4 c1 Q1 hQ1 => ih T s (k + (3 + b'.k)) (m + (c.t + (17 + b'.t))) b off N (o + 1) hi tail c1 a1 w nn bs bad hr9 (by
          have hx := hA.next (r2 := r) (k2 := k + (3 + b'.k)) (m2 := m + (c.t + (17 + b'.t))) (lo1 := 0) (hi1 := 0) p1 (Only.refl _ _) (Upd.same rfl) p4 (fun q hq => ⟨hnils q hq, by omega⟩) (by omega) (by omega) (by omega) (by omega)
          exact ⟨hx.st, hx.sp, hx.blk, hx.room, hx.nil, hx.nrb, hx.nD, hx.k9, hx.sk, hx.kM, hx.m0, hx.mN⟩) Q1 hQ1) hQ
  | inl c i o u n PT DF T' b' r ihb ih =>
    intro T s k m b off N lo hi tail c0 a w nn bs bad hr hA Q hQ
    obtain ⟨h1, h2, h3, hb9, hr9⟩ := hr
    have hM := hX.N0
    have hk := hA.kM
    have hm := hA.mN
    have hm0 := hA.m0
    have hk9 := hA.k9
    have hsk := hA.sk
    have hnN := hA.room
    simp only [R.k] at hk
    simp only [R.t] at hm
    have hrh := (R.nils_ge hr9)
    have hlast : (r.isDone && tail.isNone) = true → tail = none ∧ r.m X.ver X.flex = .unit := by
      intro h
      rw [Bool.and_eq_true] at h
      rw [isDone_eq h.1]
      exact ⟨Option.isNone_iff_eq_none.1 h.2, rfl⟩
    have hnils : ∀ q ∈ r.nils, q ∈ (R.inl c i o u n PT DF T' b' r).nils := fun q hq => by simp only [R.nils, List.mem_append]; exact .inr hq
    have hnib : ∀ q ∈ b'.nils, (o + q.1, q.2) ∈ (R.inl c i o u n PT DF T' b' r).nils := fun q hq => by simp only [R.nils, List.mem_append, List.mem_map]; exact .inl ⟨q, hq, rfl⟩
    have hcl := R.cells_le (ver := X.ver) (flex := X.flex) hb9
    simp only [R.m] at hQ
    cases hc : c.holds X.ver with
    | true =>
      rw [hc, if_pos rfl] at hQ
      refine R_step (k2 := k + (2 + b'.k)) (m2 := m + (c.t + (6 + b'.t))) (n := n) (N := N) hA.st hA.blk hA.nrb hA.nD (by omega) (by omega) h1 hcl (by omega) (fun c1 => gCond_reads hA.st (by omega) (by omega) hc fun c2 a' ha => ?_) hlast (fun _ a1 w1 nn1 bs1 bad1 p1 p2 p3 p4 c1 Q1 hQ1 => ?_) hQ
      · have ha' : Ag (Ch X.M0 k m) a a' := ha.mono fun j hj => by unfold Ch; omega
        refine gInl_reads (hA.st.act ha' hk9 (by omega) (by omega)) ((ha'.keep s (by unfold Ch; omega)).trans hA.sp) h2 hA.blk (by omega) (fun q hq => by have := hA.nil _ (hnib q hq); rwa [← Nat.add_assoc] at this) hA.nrb hA.nD h3 hsk (by omega) (by omega) (by omega) (by omega) ?_
        intro c3 a3 w3 nn3 st3 q1 q2 q3 Q4 hQ4
        exact ihb T' (k + 1) (k + 2) (m + c.t + 6) b (off + o) N 0 n none c3 a3 w3 nn3 bs bad hb9 ⟨st3, q1, q2, by omega, q3, hA.nrb, hA.nD, by omega, by omega, by omega, by omega, by omega⟩ Q4 (by simp only [Nat.add_zero]; exact hQ4)
      · exact ih T s (k + (2 + b'.k)) (m + (c.t + (6 + b'.t))) b off N (o + n) hi tail c1 a1 w1 nn1 bs1 bad1 hr9 (by
          have hx := hA.next (r2 := r) (k2 := k + (2 + b'.k)) (m2 := m + (c.t + (6 + b'.t))) p1 p2 p3 p4 (fun q hq => ⟨hnils q hq, by have := hrh.1 q hq; omega⟩) (by omega) (by omega) (by omega) (by omega)
          exact ⟨hx.st, hx.sp, hx.blk, hx.room, hx.nil, hx.nrb, hx.nD, hx.k9, hx.sk, hx.kM, hx.m0, hx.mN⟩) Q1 hQ1
    | false =>
      rw [hc, if_neg (by decide)] at hQ
      refine R_skip (k2 := k + (2 + b'.k)) (m2 := m + (c.t + (6 + b'.t))) (lo2 := o + n) hA.st (by omega) (by omega) (by omega) hk9 (by omega) (by omega) (fun c1 Q1 h => gCond_wp hA.st.ver (by omega) (by rw [hA.st.size]; omega) (fun hy => by rw [hc] at hy; cases hy) fun _ a' ha => h a' (ha.mono fun j hj => by unfold Ch; omega)) hlast
        (fun _ a1 p1 p4 c1 Q1 hQ1 => ih T s (k + (2 + b'.k)) (m + (c.t + (6 + b'.t))) b off N (o + n) hi tail c1 a1 w nn bs bad hr9 (by
          have hx := hA.next (r2 := r) (k2 := k + (2 + b'.k)) (m2 := m + (c.t + (6 + b'.t))) (lo1 := 0) (hi1 := 0) p1 (Only.refl _ _) (Upd.same rfl) p4 (fun q hq => ⟨hnils q hq, by omega⟩) (by omega) (by omega) (by omega) (by omega)
          exact ⟨hx.st, hx.sp, hx.blk, hx.room, hx.nil, hx.nrb, hx.nD, hx.k9, hx.sk, hx.kM, hx.m0, hx.mN⟩) Q1 hQ1) hQ
  | vv c i o u st cv uc sc up sp vc wc vp wp r ih =>
    intro T s k m b off N lo hi tail c0 a w nn bs bad hr hA Q hQ
    obtain ⟨h1, h2, h3, h4, h5, h6, h7⟩ := hr
    have hM := hX.N0
    have hk := hA.kM
    have hm := hA.mN
    have hm0 := hA.m0
    have hk9 := hA.k9
    have hsk := hA.sk
    have hnN := hA.room
    simp only [R.k] at hk
    simp only [R.t] at hm
    have hrh := (R.nils_ge h7)
    have hlast : (r.isDone && tail.isNone) = true → tail = none ∧ r.m X.ver X.flex = .unit := by
      intro h
      rw [Bool.and_eq_true] at h
      rw [isDone_eq h.1]
      exact ⟨Option.isNone_iff_eq_none.1 h.2, rfl⟩
    have hnils : ∀ q ∈ r.nils, q ∈ (R.vv c i o u st cv uc sc up sp vc wc vp wp r).nils := fun q hq => hq
    simp only [R.m] at hQ
    cases hc : c.holds X.ver with
    | true =>
      rw [hc, if_pos rfl] at hQ
      refine R_step (k2 := k + 2) (m2 := m + (c.t + 20)) (n := 1) (N := N) hA.st hA.blk hA.nrb hA.nD (by omega) (by omega) h1 (by split <;> exact Nat.le_refl _) (by omega) (fun c1 => gCond_reads hA.st (by omega) (by omega) hc fun c2 a' ha => ?_) hlast (fun _ a1 w1 nn1 bs1 bad1 p1 p2 p3 p4 c1 Q1 hQ1 => ?_) hQ
      · have ha' : Ag (Ch X.M0 k m) a a' := ha.mono fun j hj => by unfold Ch; omega
        exact gVvR_reads h2 h3 h4 h5 (hA.st.act ha' hk9 (by omega) (by omega)) ((ha'.keep s (by unfold Ch; omega)).trans hA.sp) h6 hA.blk (by omega) hA.nrb hA.nD hk9 hsk (by omega) (by omega) (by omega)
      · exact ih T s (k + 2) (m + (c.t + 20)) b off N (o + 1) hi tail c1 a1 w1 nn1 bs1 bad1 h7 (by
          have hx := hA.next (r2 := r) (k2 := k + 2) (m2 := m + (c.t + 20)) p1 p2 p3 p4 (fun q hq => ⟨hnils q hq, by have := hrh.1 q hq; omega⟩) (by omega) (by omega) (by omega) (by omega)
          exact ⟨hx.st, hx.sp, hx.blk, hx.room, hx.nil, hx.nrb, hx.nD, hx.k9, hx.sk, hx.kM, hx.m0, hx.mN⟩) Q1 hQ1
    | false =>
      rw [hc, if_neg (by decide)] at hQ
      refine R_skip (k2 := k + 2) (m2 := m + (c.t + 20)) (lo2 := o + 1) hA.st (by omega) (by omega) (by omega) hk9 (by omega) (by omega) (fun c1 Q1 h => gCond_wp hA.st.ver (by omega) (by rw [hA.st.size]; omega) (fun hy => by rw [hc] at hy; cases hy) fun _ a' ha => h a' (ha.mono fun j hj => by unfold Ch; omega)) hlast
        (fun _ a1 p1 p4 c1 Q1 hQ1 => ih T s (k + 2) (m + (c.t + 20)) b off N (o + 1) hi tail c1 a1 w nn bs bad h7 (by
          have hx := hA.next (r2 := r) (k2 := k + 2) (m2 := m + (c.t + 20)) (lo1 := 0) (hi1 := 0) p1 (Only.refl _ _) (Upd.same rfl) p4 (fun q hq => ⟨hnils q hq, by omega⟩) (by omega) (by omega) (by omega) (by omega)
          exact ⟨hx.st, hx.sp, hx.blk, hx.room, hx.nil, hx.nrb, hx.nD, hx.k9, hx.sk, hx.kM, hx.m0, hx.mN⟩) Q1 hQ1) hQ
  | tags i o u F r ih =>
    intro T s k m b off N lo hi tail c0 a w nn bs bad hr hA Q hQ
    obtain ⟨h1, hfx, h3, h4, h5⟩ := hr
    have hM := hX.N0
    have hk := hA.kM
    have hm := hA.mN
    have hm0 := hA.m0
    have hk9 := hA.k9
    have hsk := hA.sk
    have hnN := hA.room
    simp only [R.k] at hk
    simp only [R.t] at hm
    have hrh := (R.nils_ge h5)
    have hlast : (r.isDone && tail.isNone) = true → tail = none ∧ r.m X.ver X.flex = .unit := by
      intro h
      rw [Bool.and_eq_true] at h
      rw [isDone_eq h.1]
      exact ⟨Option.isNone_iff_eq_none.1 h.2, rfl⟩
    simp only [R.m] at hQ
    cases hc : X.flex with
    | true =>
      rw [hc, if_pos rfl] at hQ
      refine R_step (k := k) (m := m) (lo := lo) (hi := hi) (b := b) (off := off) (o := o) (mR := r.m X.ver X.flex) (k2 := k) (m2 := m + 5) (n := 1) (N := N) (mF := .tags) hA.st hA.blk hA.nrb hA.nD (by omega) (by omega) h1 (Nat.le_refl _) (by omega) (fun c1 => ?_) hlast (fun _ a1 w1 nn1 bs1 bad1 p1 p2 p3 p4 c1 Q1 hQ1 => ?_) (by rw [hc]; exact hQ)
      · exact gTags_reads hX hfx hc h3 hA.st hA.sp h4 hA.blk (by omega) hA.nrb hA.nD hk9 hsk (by omega) (by omega) (by omega)
      · exact ih T s k (m + 5) b off N (o + 1) hi tail c1 a1 w1 nn1 bs1 bad1 h5 (by
          have hx := hA.next (r2 := r) (k2 := k) (m2 := m + 5) p1 p2 p3 p4 (fun q hq => ⟨hq, by have := hrh.1 q hq; omega⟩) (by omega) (by omega) (by omega) (by omega)
          exact ⟨hx.st, hx.sp, hx.blk, hx.room, hx.nil, hx.nrb, hx.nD, hx.k9, hx.sk, hx.kM, hx.m0, hx.mN⟩) Q1 hQ1
    | false =>
      rw [hc, if_neg (by decide)] at hQ
      refine R_skip (k := k) (m := m) (lo := lo) (hi := hi) (b := b) (off := off) (k2 := k) (m2 := m + 5) (lo2 := o + 1) hA.st (by omega) (by omega) (by omega) hk9 (by omega) (by omega) (fun c1 Q1 h => ?_) hlast
        (fun _ a1 p1 p4 c1 Q1 hQ1 => ih T s k (m + 5) b off N (o + 1) hi tail c1 a1 w nn bs bad h5 (by
          have hx := hA.next (r2 := r) (k2 := k) (m2 := m + 5) (lo1 := 0) (hi1 := 0) p1 (Only.refl _ _) (Upd.same rfl) p4 (fun q hq => ⟨hq, by omega⟩) (by omega) (by omega) (by omega) (by omega)
          exact ⟨hx.st, hx.sp, hx.blk, hx.room, hx.nil, hx.nrb, hx.nD, hx.k9, hx.sk, hx.kM, hx.m0, hx.mN⟩) Q1 hQ1) (by rw [hc]; exact hQ)
      have z0 : m < a.tmps.size := by rw [hA.st.size]; omega
      refine wp_seq (gMove_wp (X := X) z0 (wp_cond_false (by rw [evT, gt_put z0, if_pos rfl, hA.st.fl hfx, hc]) (wp_skip (h _ ((Ag.refl (Ch X.M0 k m) a).put (d := m) (by unfold Ch; omega) z0 _)))))
end
end Go.Proofs.YtpefipjgcpchaaaGreatDoorR.Kf
