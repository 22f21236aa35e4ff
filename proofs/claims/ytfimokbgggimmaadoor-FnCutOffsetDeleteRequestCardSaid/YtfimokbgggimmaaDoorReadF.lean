/- Reading, the sixth part: the whole code of a list. -/
import Derived.Test.YtfimokbgggimmaaDoorReadE
namespace Go.Proofs.YtfimokbgggimmaaDoor.Kf
set_option linter.unusedVariables false
set_option linter.unusedSimpArgs false
open Go Go.RowKit

theorem lenDec_le {c : Bool} {l bs' : List UInt8} {r : Int} (h : lenDec c l = some (r, bs')) : r ≤ 2147483647 := by
  unfold lenDec at h
  cases c with
  | true =>
    simp only [if_true] at h
    cases hu : uvDec l with
    | none => rw [hu] at h; cases h
    | some x =>
      obtain ⟨u, l1⟩ := x
      have := uvDec_lt hu
      rw [hu] at h
      simp only at h
      have hq : (if u ≤ 2147483648 then (u : Int) - 1 else (u : Int) - 4294967296 - 1) ≤ 2147483647 := by split <;> omega
      generalize (if u ≤ 2147483648 then (u : Int) - 1 else (u : Int) - 4294967296 - 1) = q at h hq
      split at h
      · cases h
      · simp only [Option.some.injEq, Prod.mk.injEq] at h
        rw [← h.1]; exact hq
  | false =>
    simp only [Bool.false_eq_true, if_false] at h
    split at h
    · cases h
    · rename_i hl
      have hb := beDec_lt (l.take 4)
      have hlen : (l.take 4).length = 4 := by simp; omega
      rw [hlen] at hb
      split at h
      · cases h
      · simp only [Option.some.injEq, Prod.mk.injEq] at h
        rw [← h.1]
        simp only [Prim.conv]
        split <;> omega

theorem Only.fresh {S : Nat → Prop} {w w' : World} (h : Only (fun j => S j ∨ w.heap.size ≤ j) w w') : Only S w w' :=
  h.mono fun j hj hs => by rcases hs with hs | hs; exact hs; omega

section
variable {X : RX} {Q : Exit → Act → World → Prop}

/-- A loop of no rounds. -/
theorem loop0_wp {is ls m : Nat} {body : Code → Code} {c0 : Code} {a : Act} {w : World} {r : Int} (hl : gt a ls = .int .i32 r) (hr : r ≤ 0) (his : is < m) (hls : ls < is) (hN : m + 5 ≤ a.tmps.size)
    (h : ∀ a', Ag (fun j => j = is ∨ (m ≤ j ∧ j < m + 5)) a a' → Q .normal a' w) : (gFor X.G is ls m body c0).wp X.P Q a w := by
  refine wp_seq (wp_reg (wpC_val (runs_assign _) (wpC_nil ?_)))
  have zi : is < a.tmps.size := by omega
  have g0 := (Ag.refl (fun j => j = is ∨ (m ≤ j ∧ j < m + 5)) a).put (d := is) (by omega) zi (a.eval (.const (.int .i32 0)))
  have e0 : gt (a.put (some is) (a.eval (.const (.int .i32 0)))) is = .int .i32 0 := by rw [gt_put zi, if_pos rfl]; rfl
  generalize a.put (some is) (a.eval (.const (.int .i32 0))) = a0 at g0 e0
  have hl0 : gt a0 ls = .int .i32 r := (g0.keep ls (by omega)).trans hl
  refine wp_block (wp_loop_once (wp_seq (wp_seq (wp_reg (wpC_val (runs_move _) (wpC_val (runs_move _) ?_))))))
  have z0 : m < a0.tmps.size := by rw [g0.size]; omega
  rw [evT, e0]
  have g1 := g0.put (d := m) (by omega) z0 (.int .i32 0)
  have e1 : (a0.put (some m) (.int .i32 0)).eval (.tmp ls) = .int .i32 r := by rw [evT, gt_put z0, if_neg (by omega)]; exact hl0
  rw [e1]
  have e1b : gt (a0.put (some m) (.int .i32 0)) m = .int .i32 0 := by rw [gt_put z0, if_pos rfl]
  generalize a0.put (some m) (.int .i32 0) = a1 at g1 e1b
  have z1 : m + 1 < a1.tmps.size := by rw [g1.size]; omega
  have g2 := g1.put (d := m + 1) (by omega) z1 (.int .i32 r)
  refine wpC_val (runs_cmp .lss _ (.inl ⟨rfl, rfl⟩) (k := .i32) (p := 0) (q := r) (by rw [evT, gt_put z1, if_neg (by omega)]; exact e1b) (by rw [evT, gt_put z1, if_pos rfl])) (wpC_nil ?_)
  have z2 : m + 2 < (a1.put (some (m + 1)) (.int .i32 r)).tmps.size := by rw [g2.size]; omega
  have g3 := g2.put (d := m + 2) (by omega) z2 (.bool (decide ((0 : Int) < r)))
  refine wp_cond (t := decide ((0 : Int) < r)) (by rw [evT, gt_put z2, if_pos rfl]) ?_
  rw [if_neg (by simp; omega)]
  refine wp_exit ?_
  show (if Code.id0 (pc c0 [1]) = Code.id0 (pc c0 [1]) then Q .normal _ w else Q (.exit _) _ w)
  rw [if_pos rfl]
  exact h _ g3

def gGrow (G : Gn) (TS ls as m : Nat) (c : Code) : Code :=
  .seq (reg [⟨some m, .move (.tmp ls), none⟩, ⟨some (m + 1), .binOp .gtr G.i32 (.tmp m) (.const (.int .i32 0)) G.i32, none⟩] (pc c [0]))
    (.cond (.tmp (m + 1)) (reg [⟨some (m + 2), .move (.tmp as), none⟩, ⟨some (m + 3), .move (.tmp ls), none⟩, ⟨some (m + 4), .call ⟨.builtin .append, #[.tmp (m + 2), .tmp (m + 3)], #[TS, G.i32]⟩, none⟩, ⟨some as, .assign (.tmp (m + 4)), none⟩] (pc c [1, 0])) .skip)

theorem gGrow_wp (h32 : X.P.underlying X.G.i32 = some (.int .i32)) {TS sz eb : Nat} {zs : List Value} (hS : Sl X.P TS sz eb zs) (hb : eb ≤ 2048) {ls as m : Nat} {c0 : Code} {a : Act} {w : World} {r : Int} {p : Option Addr} (hl : gt a ls = .int .i32 r) (ha : gt a as = .slice p 0 0)
    (hr : r ≤ (lim : Int)) (h1 : ls < m) (h2 : as < m) (hne : ls ≠ as) (hN : m + 5 ≤ a.tmps.size)
    (hno : r ≤ 0 → ∀ a', Ag (fun j => j = as ∨ (m ≤ j ∧ j < m + 5)) a a' → gt a' as = .slice p 0 0 → Q .normal a' w)
    (hyes : ∀ (n : Nat) a' w' c, r = n → 0 < n → Ag (fun j => j = as ∨ (m ≤ j ∧ j < m + 5)) a a' → gt a' as = .slice (some ⟨w.heap.size, 0, none⟩) n c → n ≤ c → Only (fun _ => False) w w' → w'.heap.size = w.heap.size + 1 → Blk w' w.heap.size (c * sz) →
      (∀ i, i < n → Cells w' w.heap.size (i * sz) zs) → Q .normal a' w') : (gGrow X.G TS ls as m c0).wp X.P Q a w := by
  refine wp_seq (wp_reg (wpC_val (runs_move _) ?_))
  have z0 : m < a.tmps.size := by omega
  rw [evT, hl]
  have g1 := (Ag.refl (fun j => m ≤ j ∧ j < m + 5) a).put (d := m) (by omega) z0 (.int .i32 r)
  have e1 : gt (a.put (some m) (.int .i32 r)) m = .int .i32 r := by rw [gt_put z0, if_pos rfl]
  generalize a.put (some m) (.int .i32 r) = a1 at g1 e1
  refine wpC_val (runs_cmp .gtr _ (.inr (.inr (.inl ⟨rfl, rfl⟩))) (k := .i32) (p := r) (q := 0) e1 rfl) (wpC_nil ?_)
  have z1 : m + 1 < a1.tmps.size := by rw [g1.size]; omega
  have g2 := g1.put (d := m + 1) (by omega) z1 (.bool (decide (r > 0)))
  have e2 : gt (a1.put (some (m + 1)) (.bool (decide (r > 0)))) (m + 1) = .bool (decide (r > 0)) := by rw [gt_put z1, if_pos rfl]
  generalize a1.put (some (m + 1)) (.bool (decide (r > 0))) = a2 at g2 e2
  have l2 : gt a2 ls = .int .i32 r := (g2.keep ls (by omega)).trans hl
  have s2 : gt a2 as = .slice p 0 0 := (g2.keep as (by omega)).trans ha
  refine wp_cond (t := decide (r > 0)) e2 ?_
  by_cases hp : r > 0
  · rw [if_pos (by simpa using hp)]
    obtain ⟨n, rfl⟩ : ∃ n : Nat, r = n := ⟨r.toNat, by omega⟩
    refine wp_reg (wpC_val (runs_move _) ?_)
    rw [evT, s2]
    have z2 : m + 2 < a2.tmps.size := by rw [g2.size]; omega
    have g3 := g2.put (d := m + 2) (by omega) z2 (.slice p 0 0)
    have e3 : gt (a2.put (some (m + 2)) (.slice p 0 0)) (m + 2) = .slice p 0 0 := by rw [gt_put z2, if_pos rfl]
    generalize a2.put (some (m + 2)) (.slice p 0 0) = a3 at g3 e3
    have l3 : gt a3 ls = .int .i32 (n : Nat) := (g3.keep ls (by omega)).trans hl
    refine wpC_val (runs_move _) ?_
    rw [evT, l3]
    have z3 : m + 3 < a3.tmps.size := by rw [g3.size]; omega
    have g4 := g3.put (d := m + 3) (by omega) z3 (.int .i32 (n : Nat))
    have e4 : gt (a3.put (some (m + 3)) (.int .i32 (n : Nat))) (m + 3) = .int .i32 (n : Nat) := by rw [gt_put z3, if_pos rfl]
    have e4b : gt (a3.put (some (m + 3)) (.int .i32 (n : Nat))) (m + 2) = .slice p 0 0 := by rw [gt_put z3, if_neg (by omega)]; exact e3
    generalize a3.put (some (m + 3)) (.int .i32 (n : Nat)) = a4 at g4 e4 e4b
    obtain ⟨c, w', hrun, hc, ho, hsz, hblk, hcs⟩ := runs_make (a := a4) (w := w) (x := .tmp (m + 2)) (y := .tmp (m + 3)) hS h32 e4b e4 (by omega) (by omega) hb
    refine wpC_val hrun ?_
    have z4 : m + 4 < a4.tmps.size := by rw [g4.size]; omega
    have g5 := g4.put (d := m + 4) (by omega) z4 (.slice (some ⟨w.heap.size, 0, none⟩) n c)
    have e5 : gt (a4.put (some (m + 4)) (.slice (some ⟨w.heap.size, 0, none⟩) n c)) (m + 4) = .slice (some ⟨w.heap.size, 0, none⟩) n c := by rw [gt_put z4, if_pos rfl]
    generalize a4.put (some (m + 4)) (.slice (some ⟨w.heap.size, 0, none⟩) n c) = a5 at g5 e5
    refine wpC_val (runs_assign _) (wpC_nil ?_)
    rw [evT, e5]
    have z5 : as < a5.tmps.size := by rw [g5.size]; omega
    exact hyes n _ w' c rfl (by omega) ((g5.mono (S' := fun j => j = as ∨ (m ≤ j ∧ j < m + 5)) fun j hj => .inr hj).put (d := as) (by omega) z5 _) (by rw [gt_put z5, if_pos rfl]) hc ho hsz hblk hcs
  · rw [if_neg (by simpa using hp)]
    exact wp_skip (hno (by omega) a2 (g2.mono fun j hj => .inr hj) s2)

/-! ### the whole -/

def arrT (l : Fl) (nl : Option Int) (bt : Nat) : Nat := 5 + l.t + nullT nl + 15 + bt + 5

def gArr (G : Gn) (T i TS : Nat) (l : Fl) (nl : Option Int) (s k m bt : Nat) (body : Code → Code) (c : Code) : Code :=
  .seq (gLoad T i TS s k m (pc c [0]))
  (.seq (gCopy k (k + 1) (m + 4) (pc c [1, 0]))
  (.seq (gConst (k + 2) (.int .i32 0) (pc c [1, 1, 0]))
  (.seq (gLen G (k + 2) (m + 5) l (pc c [1, 1, 1, 0]))
  (gNull G TS (k + 2) (k + 1) (m + 5 + l.t) nl (fun c =>
    .seq (gOk G (m + 5 + l.t + nullT nl) (pc c [0]))
    (.seq (reg [⟨some (m + 5 + l.t + nullT nl + 3), .move (.tmp (k + 1)), none⟩, ⟨some (m + 5 + l.t + nullT nl + 4), .slice TS (.tmp (m + 5 + l.t + nullT nl + 3)) none (some (.const (.int .i64 0))) none, none⟩, ⟨some (k + 1), .assign (.tmp (m + 5 + l.t + nullT nl + 4)), none⟩] (pc c [1, 0]))
    (.seq (gGrow G TS (k + 2) (k + 1) (m + 5 + l.t + nullT nl + 5) (pc c [1, 1, 0]))
    (.seq (gFor G (k + 3) (k + 2) (m + 5 + l.t + nullT nl + 10) body (pc c [1, 1, 1, 0]))
    (.seq (gCopy (k + 1) k (m + 5 + l.t + nullT nl + 15 + bt) (pc c [1, 1, 1, 1, 0]))
    (sinkF T i TS s k (m + 5 + l.t + nullT nl + 15 + bt + 1) (pc c [1, 1, 1, 1, 1]))))))) (pc c [1, 1, 1, 1])))))

/-- Whether a length below none is null. -/
def nullR (ver : Int) : Option Int → Bool
  | none => false
  | some n => !(decide (ver < n))

theorem arr_reads (hX : XOk X) {T i o u TS sz eb s k m bt b off N : Nat} {zs : List Value} {l : Fl} {nl : Option Int} {em : M} {body : Code → Code} {c0 : Code} {a : Act} {w : World} {nn : Bool} {bs : List UInt8} {bad : Bool}
    (hl : l.ok X.P X.fx) (hst : St X a w nn bs bad) (hs : gt a s = .pointer (some ⟨b, off, none⟩)) (hf : FieldAt X.P T i o TS 1) (hS : Sl X.P TS sz eb zs) (heb : eb ≤ 2048) (hem : em.cells ≤ sz)
    (hb : Blk w b N) (hn : off + o + 1 ≤ N) (hnil : w.cell? ⟨b, off + o, none⟩ = some (.slice none 0 0)) (hbr : b ≠ X.rb) (hbD : (X.L ≤ b ∧ b ≠ X.D))
    (h9 : 9 < k) (hsk : s < k) (hk : k + 4 ≤ X.M0) (hm : X.M0 ≤ m) (hN : m + arrT l nl bt ≤ X.N)
    (hbody : ∀ A cap n, (X.L ≤ A ∧ A ≠ X.D) → A ≠ X.rb → ∀ c a w nn bs bad i, i < n → St X a w nn bs bad → gt a (k + 1) = .slice (some ⟨A, 0, none⟩) n cap → gt a (k + 3) = .int .i32 (i : Nat) → n ≤ cap → Blk w A (cap * sz) → Cells w A (i * sz) zs →
      Reads X (body c) (dec em.w) (fun w' lo hi x => Holds X.D em w' lo hi A (i * sz) x) (k + 4) (m + 5 + l.t + nullT nl + 10 + 5) A (i * sz) (i * sz + sz) a w bs bad) :
    Reads X (gArr X.G T i TS l nl s k m bt body c0) (dec (M.arr (l.c X.flex) nl.isSome (nullR X.ver nl) sz em).w) (fun w' lo hi x => Holds X.D (M.arr (l.c X.flex) nl.isSome (nullR X.ver nl) sz em) w' lo hi b (off + o) x) k m b (off + o) (off + o + 1) a w bs bad := by
  intro Q hQ
  have hrb := hst.rb_gt
  have hrl := hst.st.lt
  have hbl := hb.lt
  have hsz := hst.size
  have hM := hX.N0
  unfold arrT at hN
  refine wp_seq (gLoad_wp hs hf hS.one hnil (by omega) (by omega) fun a1 g1 v1 => ?_)
  have f1 : Ag (Ch X.M0 k m) a a1 := g1.mono fun j hj => by unfold Ch; omega
  refine wp_seq (gCopy_wp (by rw [f1.size]; omega) (by rw [f1.size]; omega) fun a2 g2 v2 => ?_)
  have f2 : Ag (Ch X.M0 k m) a a2 := f1.trans (g2.mono fun j hj => by unfold Ch; omega)
  rw [v1] at v2
  refine wp_seq (gConst_wp (by rw [f2.size]; omega) fun a3 g3 v3 => ?_)
  have f3 : Ag (Ch X.M0 k m) a a3 := f2.trans (g3.mono fun j hj => by unfold Ch; omega)
  have w3 : gt a3 (k + 1) = .slice none 0 0 := (g3.keep (k + 1) (by omega)).trans v2
  have st3 := hst.act f3 h9 (by omega) (by omega)
  refine wp_seq (gLen_wp l hl st3 (by omega) (by omega) (by omega) (by omega) fun a4 w4 r g4 => ?_)
  have f4 : Ag (Ch X.M0 k m) a a4 := f3.trans (g4.ag.ch (by omega) (by omega))
  have v4 : gt a4 (k + 1) = .slice none 0 0 := (g4.ag.keep (k + 1) (by unfold Ch; omega)).trans w3
  have ver4 : gt a4 8 = .int .i16 X.ver := (f4.keep 8 (by unfold Ch; omega)).trans hst.ver
  -- behind the test on null
  have rest : ∀ c a5 w5 p, Ag (Ch X.M0 k m) a a5 → Only (· = X.rb) w w5 → gt a5 (k + 1) = .slice p 0 0 → gt a5 (k + 2) = .int .i32 r →
      ((p = none ∧ nullB X.ver r nl = false) ∨ ∃ A, p = some ⟨A, 0, none⟩ ∧ w.heap.size ≤ A ∧ A < w5.heap.size ∧ nullB X.ver r nl = true) →
      ((bad = false ∧ ∃ bs' nn', lenDec (l.c X.flex) bs = some (r, bs') ∧ r ≤ bs'.length ∧ bs'.length ≤ bs.length ∧ St X a5 w5 nn' bs' false) ∨ ((bad = true ∨ lenDec (l.c X.flex) bs = none) ∧ St X a5 w5 false [] true)) →
      (Code.seq (gOk X.G (m + 5 + l.t + nullT nl) (pc c [0]))
        (.seq (reg [⟨some (m + 5 + l.t + nullT nl + 3), .move (.tmp (k + 1)), none⟩, ⟨some (m + 5 + l.t + nullT nl + 4), .slice TS (.tmp (m + 5 + l.t + nullT nl + 3)) none (some (.const (.int .i64 0))) none, none⟩, ⟨some (k + 1), .assign (.tmp (m + 5 + l.t + nullT nl + 4)), none⟩] (pc c [1, 0]))
        (.seq (gGrow X.G TS (k + 2) (k + 1) (m + 5 + l.t + nullT nl + 5) (pc c [1, 1, 0]))
        (.seq (gFor X.G (k + 3) (k + 2) (m + 5 + l.t + nullT nl + 10) body (pc c [1, 1, 1, 0]))
        (.seq (gCopy (k + 1) k (m + 5 + l.t + nullT nl + 15 + bt) (pc c [1, 1, 1, 1, 0]))
        (sinkF T i TS s k (m + 5 + l.t + nullT nl + 15 + bt + 1) (pc c [1, 1, 1, 1, 1]))))))).wp X.P Q a5 w5 := by
    intro c a5 w5 p f5 o5 p5 r5 hp hc
    have hfail : ∀ {a' : Act} {w' : World} (_ : bad = true ∨ lenDec (l.c X.flex) bs = none) (_ : a'.defers = []) (_ : IsErr true (gt a' 6)) (_ : Only (· = X.rb) w w'), Q .ret a' w' := fun {a'} {w'} h1 h2 h3 h4 =>
      hQ.ret a' w' (h1.imp id fun h => by simp only [M.w, dec, h]) h2 h3 (h4.mono fun _ _ h => .inl h) (Upd.same (h4.block b hbl hbr))
    rcases hc with ⟨hbad, bs', nn', hd, hr1, hr2, st5⟩ | ⟨hbad, st5⟩
    case inr =>
      exact wp_seq (gOk_wp hX st5 (by omega) (by omega) (fun h => by cases h) fun _ a6 w6 hdf he ho => hfail hbad hdf he (o5.trans (ho.none _)))
    refine wp_seq (gOk_wp hX st5 (by omega) (by omega) (fun _ a6 w6 g6 o6 => ?_) fun h => by cases h)
    have f6 : Ag (Ch X.M0 k m) a a6 := f5.trans (g6.mono fun j hj => by unfold Ch; omega)
    have p6 : gt a6 (k + 1) = .slice p 0 0 := (g6.keep _ (by omega)).trans p5
    have r6 : gt a6 (k + 2) = .int .i32 r := (g6.keep _ (by omega)).trans r5
    have st6 := (st5.none o6).act (k := k) (m := m) (g6.mono fun j hj => by unfold Ch; omega) h9 (by omega) (by omega)
    have o6' : Only (· = X.rb) w w6 := o5.trans (o6.none _)
    -- a[:0]
    refine wp_seq (wp_reg (wpC_val (runs_move _) ?_))
    rw [evT, p6]
    have z1 : m + 5 + l.t + nullT nl + 3 < a6.tmps.size := by rw [f6.size]; omega
    have q1 := (Ag.refl (Ch X.M0 (k + 1) m) a6).put (d := m + 5 + l.t + nullT nl + 3) (by unfold Ch; omega) z1 (.slice p 0 0)
    have e1 : gt (a6.put (some (m + 5 + l.t + nullT nl + 3)) (.slice p 0 0)) (m + 5 + l.t + nullT nl + 3) = .slice p 0 0 := by rw [gt_put z1, if_pos rfl]
    have e1r : gt (a6.put (some (m + 5 + l.t + nullT nl + 3)) (.slice p 0 0)) (k + 2) = .int .i32 r := by rw [gt_put z1, if_neg (by omega)]; exact r6
    generalize a6.put (some (m + 5 + l.t + nullT nl + 3)) (.slice p 0 0) = b1 at q1 e1 e1r
    refine wpC_val (runs_slice0 hS e1) ?_
    have z2 : m + 5 + l.t + nullT nl + 4 < b1.tmps.size := by rw [q1.size, f6.size]; omega
    have q2 := q1.put (d := m + 5 + l.t + nullT nl + 4) (by unfold Ch; omega) z2 (.slice p 0 0)
    have e2 : gt (b1.put (some (m + 5 + l.t + nullT nl + 4)) (.slice p 0 0)) (m + 5 + l.t + nullT nl + 4) = .slice p 0 0 := by rw [gt_put z2, if_pos rfl]
    have e2r : gt (b1.put (some (m + 5 + l.t + nullT nl + 4)) (.slice p 0 0)) (k + 2) = .int .i32 r := by rw [gt_put z2, if_neg (by omega)]; exact e1r
    generalize b1.put (some (m + 5 + l.t + nullT nl + 4)) (.slice p 0 0) = b2 at q2 e2 e2r
    refine wpC_val (runs_assign _) (wpC_nil ?_)
    rw [evT, e2]
    have z3 : k + 1 < b2.tmps.size := by rw [q2.size, f6.size]; omega
    have q3 := q2.put (d := k + 1) (by unfold Ch; omega) z3 (.slice p 0 0)
    have e3 : gt (b2.put (some (k + 1)) (.slice p 0 0)) (k + 1) = .slice p 0 0 := by rw [gt_put z3, if_pos rfl]
    have e3r : gt (b2.put (some (k + 1)) (.slice p 0 0)) (k + 2) = .int .i32 r := by rw [gt_put z3, if_neg (by omega)]; exact e2r
    generalize b2.put (some (k + 1)) (.slice p 0 0) = a7 at q3 e3 e3r
    have f7 : Ag (Ch X.M0 k m) a a7 := f6.trans (q3.ch (by omega) (by omega))
    have st7 := st6.act (q3.ch (Nat.le_refl _) (Nat.le_refl _)) (by omega) (by omega) (by omega)
    have hlim : bs'.length ≤ lim := Nat.le_trans hr2 hst.lim
    -- the end: the list is stored
    have fin : ∀ (c1 c2 : Code) a9 w9 v x bs9 nn9, Ag (Ch X.M0 k m) a a9 → Only (fun j => j = X.rb ∨ w.heap.size ≤ j) w w9 → gt a9 (k + 1) = v → v.cells = #[v] → v.oneCell' = true →
        dec (M.arr (l.c X.flex) nl.isSome (nullR X.ver nl) sz em).w bs = some (x, bs9) → St X a9 w9 nn9 bs9 false →
        (∀ w10, w10.heap[X.D]? = w9.heap[X.D]? → (∀ q, w.heap.size ≤ q → w10.heap[q]? = w9.heap[q]?) → w10.heap.size = w9.heap.size → LArr (Holds X.D em) nl.isSome sz w10 w.heap.size w10.heap.size [v] x) →
        (Code.seq (gCopy (k + 1) k (m + 5 + l.t + nullT nl + 15 + bt) c1) (sinkF T i TS s k (m + 5 + l.t + nullT nl + 15 + bt + 1) c2)).wp X.P Q a9 w9 := by
      intro c1 c2 a9 w9 v x bs9 nn9 f9 o9 v9 hvc hv1 hdec st9 hH
      refine wp_seq (gCopy_wp (by rw [f9.size]; omega) (by rw [f9.size]; omega) fun a10 g10 v10 => ?_)
      have f10 : Ag (Ch X.M0 k m) a a10 := f9.trans (g10.mono fun j hj => by unfold Ch; omega)
      rw [v9] at v10
      have hb9 : w9.heap[b]? = w.heap[b]? := o9.block b hbl (by omega)
      have hcs : v.cells.toList = [v] := by rw [hvc]
      refine sinkF_wp (n := 1) ((f10.keep s (by unfold Ch; omega)).trans hs) v10 hf (by rw [hvc]; rfl) (by rw [hcs]; simpa using hv1) (hb.keep hb9) hn (by omega) (by omega) (by rw [f10.size]; omega) fun a11 w11 g11 wr11 => ?_
      have f11 : Ag (Ch X.M0 k m) a a11 := f10.trans (g11.tm (by omega))
      have kb : ∀ q, q < w9.heap.size → q ≠ b → w11.heap[q]? = w9.heap[q]? := fun q q1 q2 => wr11.only.block q q1 q2
      have hle := o9.size
      have hrd9 := st9.st
      have st11 : St X a11 w11 nn9 bs9 false := by
        have h1 : St X a11 w9 nn9 bs9 false := by
          have := st9.act (k := k) (m := m) ((g10.mono fun j hj => by unfold Ch; omega : Ag (Ch X.M0 k m) a9 a10).trans (g11.tm (by omega))) h9 (by omega) (by omega)
          exact this
        exact h1.world (hrd9.keep (kb _ (by omega) (by omega)) (kb _ (by omega) (by omega))) (Nat.le_refl _) (wr11.only.mono fun q _ e => by omega)
      have oall : Only (fun j => j = X.rb ∨ j = b) w w11 := Only.fresh ((o9.mono fun q _ h => by omega).trans (wr11.only.mono fun q _ h => by omega))
      have hupd : Upd b (off + o) (off + o + 1) w w11 := by
        have := wr11.upd
        rw [hcs] at this
        intro cur e hcur
        exact this cur e (hb9.trans hcur)
      have hL := hH w11 (kb _ (by omega) (by omega)) (fun q hq => by
        by_cases hql : q < w9.heap.size
        · exact kb q hql (by omega)
        · rw [Array.getElem?_eq_none (by have := wr11.same; omega), Array.getElem?_eq_none (by omega)]) wr11.same
      refine hQ.good a11 w11 x bs9 nn9 hbad hdec f11 oall hupd st11 ⟨by have := wr11.same; omega, [v], ?_, hL⟩
      have := wr11.cells
      rwa [hcs] at this
    refine wp_seq (gGrow_wp hX.i32 hS heb e3r e3 (by omega) (by omega) (by omega) (by omega) (by rw [f7.size]; omega) (fun hr0 a8 g8 p8 => ?_) fun n a8 w8 cap hrn hn0 g8 p8 hcap o8 hsz8 hblk8 hcs8 => ?_)
    · -- no things
      have f8 : Ag (Ch X.M0 k m) a a8 := f7.trans (g8.mono fun j hj => by unfold Ch; omega)
      have r8 : gt a8 (k + 2) = .int .i32 r := (g8.keep _ (by omega)).trans e3r
      refine wp_seq (loop0_wp r8 hr0 (by omega) (by omega) (by rw [f8.size]; omega) fun a9 g9 => ?_)
      have f9 : Ag (Ch X.M0 k m) a a9 := f8.trans (g9.mono fun j hj => by unfold Ch; omega)
      have p9 : gt a9 (k + 1) = .slice p 0 0 := (g9.keep _ (by omega)).trans p8
      have st9 : St X a9 w6 nn' bs' false := st7.act (k := k) (m := m) ((g8.mono fun j hj => by unfold Ch; omega : Ag (Ch X.M0 k m) a7 a8).trans (g9.mono fun j hj => by unfold Ch; omega)) h9 (by omega) (by omega)
      have hto : r.toNat = 0 := by omega
      by_cases hnull : r < 0 ∧ nl.isSome = true ∧ nullR X.ver nl = true
      · refine fin _ _ a9 w6 (.slice p 0 0) (.list none) bs' nn' f9 (o6'.mono fun q _ h => .inl h) p9 rfl rfl ?_ st9 fun w10 _ _ _ => ?_
        · simp only [M.w, dec]
          rw [hd]; simp only; rw [if_pos hnull]
        · rcases hp with ⟨rfl, hp⟩ | ⟨A, rfl, hA1, hA2, hp⟩
          · exact .inl ⟨hnull.2.1, rfl, rfl⟩
          · exfalso
            cases nl with
            | none => simp at hnull
            | some nv =>
              simp only [nullB, nullR, Bool.or_eq_true, Bool.not_eq_true', decide_eq_false_iff_not, decide_eq_true_eq, beq_iff_eq] at hp hnull
              omega
      · refine fin _ _ a9 w6 (.slice p 0 0) (.list (some [])) bs' nn' f9 (o6'.mono fun q _ h => .inl h) p9 rfl rfl ?_ st9 fun w10 _ _ hs10 => ?_
        · simp only [M.w, dec]
          rw [hd]; simp only; rw [if_neg hnull, hto]; rfl
        · rcases hp with ⟨rfl, hp⟩ | ⟨A, rfl, hA1, hA2, hp⟩
          · refine .inr (.inl ⟨?_, rfl, rfl⟩)
            cases nl with
            | none => rfl
            | some nv =>
              exfalso
              simp only [nullB, nullR, Bool.or_eq_false_iff, decide_eq_false_iff_not, beq_eq_false_iff_ne, Bool.not_eq_true', Option.isSome_some, true_and] at hp hnull
              omega
          · have := o6.size
            exact .inr (.inr ⟨[], A, 0, rfl, rfl, hA1, by omega, fun _ => (0, 0), fun j v hv => by simp at hv⟩)
    · -- some things
      have f8 : Ag (Ch X.M0 k m) a a8 := f7.trans (g8.mono fun j hj => by unfold Ch; omega)
      have r8 : gt a8 (k + 2) = .int .i32 (n : Nat) := by rw [← hrn]; exact (g8.keep _ (by omega)).trans e3r
      have st8 : St X a8 w8 nn' bs' false := (st7.act (k := k) (m := m) (g8.mono fun j hj => by unfold Ch; omega) h9 (by omega) (by omega)).none o8
      have hle6 := o6'.size
      have hn31 := lenDec_le hd
      have hsd : ∀ x, listDec (dec em.w) n bs' = x → dec (M.arr (l.c X.flex) nl.isSome (nullR X.ver nl) sz em).w bs = x.map fun y => (.list (some y.1), y.2) := by
        intro x hx
        simp only [M.w, dec]
        rw [hd]; simp only
        rw [if_neg (by omega), hrn, Int.toNat_natCast, hx]
        cases x <;> rfl
      have o68 : Only (fun j => j = X.rb ∨ w.heap.size ≤ j) w w8 := (o6'.mono fun q _ h => .inl h).trans (o8.none _)
      refine wp_seq (loop_wp (k := k + 4) (zs := zs) hem hS.len (fun c a w nn bs bad i hi hst1 h1 h2 hB hC => hbody w6.heap.size cap n (by omega) (by omega) c a w nn bs bad i hi hst1 h1 h2 hcap hB hC) st8 r8 p8 hblk8 hcap hcs8 (by omega) (by omega) (by omega)
        (by omega) (by omega) (by omega) (by omega) (by omega) (by omega) (by omega) ?_ ?_ ?_)
      · intro a9 w9 vs bs9 nn9 hd9 g9 o9 st9 hels
        have f9 : Ag (Ch X.M0 k m) a a9 := f8.trans (g9.ch (by omega) (by omega))
        have hvl := listDec_length _ _ _ _ _ hd9
        refine fin _ _ a9 w9 (.slice (some ⟨w6.heap.size, 0, none⟩) n cap) (.list (some vs)) bs9 nn9 f9 (o68.trans (o9.mono fun q _ h => by omega)) ((g9.keep _ (by unfold Ch; omega)).trans p8) rfl rfl (by rw [hsd _ hd9]; rfl) st9 fun w10 hD10 hk10 hs10 => ?_
        obtain ⟨fe, hfe⟩ := hels
        have hle9 := o9.size
        refine .inr (.inr ⟨vs, w6.heap.size, cap, rfl, by rw [hvl], by omega, by omega, fe, fun j v hv => ?_⟩)
        obtain ⟨b1, b2, b3⟩ := hfe j v hv
        exact ⟨by omega, by omega, b3.keep hD10 (fun q q1 q2 => hk10 q (by omega)) fun _ _ => World.cell?_of_block (w := w9) (hk10 _ hle6)⟩
      · intro a9 w9 hd9 g9 o9 st9
        have f9 : Ag (Ch X.M0 k m) a a9 := f8.trans (g9.ch (by omega) (by omega))
        -- the reader has failed: what is stored does not matter
        refine wp_seq (gCopy_wp (by rw [f9.size]; omega) (by rw [f9.size]; omega) fun a10 g10 v10 => ?_)
        have f10 : Ag (Ch X.M0 k m) a a10 := f9.trans (g10.mono fun j hj => by unfold Ch; omega)
        have v9 : gt a9 (k + 1) = .slice (some ⟨w6.heap.size, 0, none⟩) n cap := (g9.keep _ (by unfold Ch; omega)).trans p8
        rw [v9] at v10
        have o9' : Only (fun j => j = X.rb ∨ w.heap.size ≤ j) w w9 := o68.trans (o9.mono fun q _ h => by omega)
        have hb9 : w9.heap[b]? = w.heap[b]? := o9'.block b hbl (by omega)
        refine sinkF_wp (n := 1) ((f10.keep s (by unfold Ch; omega)).trans hs) v10 hf rfl (by simp [Value.cells, Value.oneCell']) (hb.keep hb9) hn (by omega) (by omega) (by rw [f10.size]; omega) fun a11 w11 g11 wr11 => ?_
        have f11 : Ag (Ch X.M0 k m) a a11 := f10.trans (g11.tm (by omega))
        have kb : ∀ q, q < w9.heap.size → q ≠ b → w11.heap[q]? = w9.heap[q]? := fun q q1 q2 => wr11.only.block q q1 q2
        have hle := o9'.size
        refine hQ.fail a11 w11 (.inr (by rw [hsd _ hd9]; rfl)) f11 (Only.fresh ((o9'.mono fun q _ h => by omega).trans (wr11.only.mono fun q _ h => by omega))) ?_ ?_
        · have := wr11.upd
          intro cur e hcur
          exact this cur e (hb9.trans hcur)
        · have h1 : St X a11 w9 false [] true := st9.act (k := k) (m := m) ((g10.mono fun j hj => by unfold Ch; omega : Ag (Ch X.M0 k m) a9 a10).trans (g11.tm (by omega))) h9 (by omega) (by omega)
          exact h1.world (st9.st.keep (kb _ (by omega) (by omega)) (kb _ (by omega) (by omega))) (Nat.le_refl _) (wr11.only.mono fun q _ e => by omega)
      · intro a9 w9 hd9 hdf he o9
        have o9' : Only (fun j => j = X.rb ∨ w.heap.size ≤ j) w w9 := o68.trans (o9.mono fun q _ h => by omega)
        exact hQ.ret a9 w9 (.inr (by rw [hsd _ hd9]; rfl)) hdf he (Only.fresh (o9'.mono fun q _ h => by omega)) (Upd.same (o9'.block b hbl (by omega)))
  have hlen4 := g4.only.size
  refine gNull_wp hS ver4 g4.val (by omega) (by omega) (by omega) (by rw [f4.size]; omega) (fun hB c a5 e g5 p5 => ?_) fun hB c a5 g5 => ?_
  · have f45 : Ag (Ch X.M0 k m) a4 a5 := g5.mono fun j hj => by unfold Ch; omega
    have oal : Only (fun _ => False) w4 (w4.alloc (.cells #[] e)) := ⟨rfl, rfl, rfl, by simp, fun q hq _ => Below.heap_alloc w4 _ q hq⟩
    refine rest c a5 _ _ (f4.trans f45) (g4.only.trans (oal.none _)) p5 ((g5.keep _ (by omega)).trans g4.val) (.inr ⟨_, rfl, hlen4, by simp, hB⟩) ?_
    rcases g4.comes with ⟨hbad, bs', hd, h1, h2, nn', hr⟩ | ⟨hbad, hr⟩
    · exact .inl ⟨hbad, bs', nn', hd, h1, h2, ((hst.act (f4.trans f45) h9 (by omega) (by omega)).world hr h2 (g4.only.mono fun q _ e => by omega)).none oal⟩
    · exact .inr ⟨hbad, ((hst.act (f4.trans f45) h9 (by omega) (by omega)).world hr (by simp) (g4.only.mono fun q _ e => by omega)).none oal⟩
  · have f45 : Ag (Ch X.M0 k m) a4 a5 := g5.mono fun j hj => by unfold Ch; omega
    refine rest c a5 _ none (f4.trans f45) g4.only ((g5.keep _ (by omega)).trans v4) ((g5.keep _ (by omega)).trans g4.val) (.inl ⟨rfl, hB⟩) ?_
    rcases g4.comes with ⟨hbad, bs', hd, h1, h2, nn', hr⟩ | ⟨hbad, hr⟩
    · exact .inl ⟨hbad, bs', nn', hd, h1, h2, (hst.act (f4.trans f45) h9 (by omega) (by omega)).world hr h2 (g4.only.mono fun q _ e => by omega)⟩
    · exact .inr ⟨hbad, (hst.act (f4.trans f45) h9 (by omega) (by omega)).world hr (by simp) (g4.only.mono fun q _ e => by omega)⟩
end
end Go.Proofs.YtfimokbgggimmaaDoor.Kf
