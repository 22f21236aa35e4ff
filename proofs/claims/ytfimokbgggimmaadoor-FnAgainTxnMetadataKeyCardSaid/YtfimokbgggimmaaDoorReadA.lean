/- Reading, the first part: what the reader's functions must do (as hypotheses), stores into a block, and the code that reads one value into a variable. -/
import Derived.Test.YtfimokbgggimmaaDoorMem
namespace Go.Proofs.YtfimokbgggimmaaDoor.Kf
set_option linter.unusedVariables false
set_option linter.unusedSimpArgs false
open Go Go.RowKit

/-! ### storing cells -/

theorem getElem?_splice (l vs : List Value) (o : Nat) (h : o + vs.length ≤ l.length) (j : Nat) :
    (l.take o ++ vs ++ l.drop (o + vs.length))[j]? = if o ≤ j ∧ j < o + vs.length then vs[j - o]? else l[j]? := by
  have h1 : (l.take o).length = o := by simp; omega
  by_cases hj : j < o
  · rw [if_neg (by omega), List.append_assoc, List.getElem?_append_left (by omega), List.getElem?_take, if_pos hj]
  · by_cases hj2 : j < o + vs.length
    · rw [if_pos (by omega), List.append_assoc, List.getElem?_append_right (by omega), h1, List.getElem?_append_left (by omega)]
    · rw [if_neg (by omega), List.getElem?_append_right (by simp; omega), List.getElem?_drop]
      congr 1
      simp
      omega

/-- The cells vs stand in the block b from o on; else nothing has changed. -/
structure Wr (b o : Nat) (vs : List Value) (w w' : World) : Prop where
  only : Only (· = b) w w'
  same : w'.heap.size = w.heap.size
  upd : Upd b o (o + vs.length) w w'
  cells : Cells w' b o vs

theorem runs_storeN {P : Program} {a : Act} {w : World} {u : Nat} {x y : Operand} {b o n : Nat} {v : Value} (hx : a.eval x = .pointer (some ⟨b, o, none⟩)) (hy : a.eval y = v)
    (hsz : ∃ inf, P.info? u = some inf ∧ inf.size = v.cells.size) (h1 : ∀ c ∈ v.cells.toList, c.oneCell' = true) (hb : Blk w b n) (hn : o + v.cells.size ≤ n) :
    ∃ w', RunsU P a w (.store u x y) w' ∧ Wr b o v.cells.toList w w' := by
  obtain ⟨cur, e, hc, rfl⟩ := hb
  obtain ⟨inf, hi, hs⟩ := hsz
  have hr := run_storeCells_at (P := P) b o e v.cells.toList 0 cur w hc (by simpa using hn) h1
  simp only [Nat.add_zero] at hr
  refine ⟨w.setRow b (cur.toList.take o ++ v.cells.toList ++ cur.toList.drop (o + v.cells.toList.length)).toArray, ?_, ?_⟩
  · intro q hq
    simp only [execOp, hq, Instr.storeAt, hx, hy, Instr.sureAddr, storeVar, sizeOf, typeInfo, Sem.run_bind, run_program, hi, Sem.run_pure, Result.andThen, hs, ne_eq, not_true_eq_false, if_false, hr]
  · have hbk : (w.setRow b (cur.toList.take o ++ v.cells.toList ++ cur.toList.drop (o + v.cells.toList.length)).toArray).heap[b]? = some (.cells (cur.toList.take o ++ v.cells.toList ++ cur.toList.drop (o + v.cells.toList.length)).toArray e (0, 0)) := setRow_heap w b cur _ e _ hc
    have hlen : o + v.cells.toList.length ≤ cur.toList.length := by simpa using hn
    refine ⟨⟨rfl, rfl, rfl, by simp [World.setRow], fun k hk hne => ?_⟩, by simp [World.setRow], ?_, ?_⟩
    · simp only [World.setRow, Array.getElem?_modify]
      rw [if_neg (fun e => hne e.symm)]
    · intro cur2 e2 h2
      rw [hc] at h2
      injection h2 with h2
      injection h2 with h3 h4
      subst h3; subst h4
      refine ⟨_, hbk, by simp at hn ⊢; omega, fun j hj => ?_⟩
      have := getElem?_splice cur.toList v.cells.toList o hlen j
      rw [if_neg (by omega)] at this
      simpa using this
    · intro j u hu
      have hj : j < v.cells.toList.length := (List.getElem?_eq_some_iff.1 hu).1
      have := getElem?_splice cur.toList v.cells.toList o hlen (o + j)
      rw [if_pos (by omega), Nat.add_sub_cancel_left] at this
      simp only [World.cell?, hbk]
      simp only [Option.isSome_none, Bool.false_eq_true, if_false, List.getElem?_toArray]
      rw [this]; exact hu

/-! ### what the reader's functions must do -/

/-- The most octets that are read. -/
def lim : Nat := 68719476736

inductive RK
  | prim (p : Prim)
  | str (c nl : Bool)
  | byt (c nl : Bool)
  | tags
  deriving DecidableEq

def RK.m : RK → M
  | .prim p => .prim p
  | .str c nl => .str c nl
  | .byt c nl => .byt c nl
  | .tags => .tags
def RK.n (k : RK) : Nat := k.m.cells
def RK.dec (k : RK) : List UInt8 → Option (Val × List UInt8) := Kf.dec k.m.w
def RK.leaf (D : Nat) : RK → World → Nat → Nat → List Value → Val → Prop
  | .prim p, _, _, _, cs, x => LPrim p cs x
  | .str _ nl, w, lo, hi, cs, x => LStr nl w lo hi cs x
  | .byt _ nl, w, _, _, cs, x => LByt D nl w cs x
  | .tags, w, lo, hi, cs, x => LTags D w lo hi cs x

theorem RK.holds {D : Nat} {k : RK} {w : World} {lo hi b off : Nat} {cs : List Value} {x : Val} (hl : lo ≤ hi) (hc : Cells w b off cs) (h : k.leaf D w lo hi cs x) : Holds D k.m w lo hi b off x := by
  cases k <;> exact ⟨hl, cs, hc, h⟩

/-- A leaf stays where the blocks that it leads to are as they were. -/
theorem RK.leaf_keep {D : Nat} {k : RK} {w w' : World} {lo hi : Nat} {cs : List Value} {x : Val} (h : k.leaf D w lo hi cs x) (hD : w'.heap[D]? = w.heap[D]?) (hk : ∀ k, lo ≤ k → k < hi → w'.heap[k]? = w.heap[k]?) : k.leaf D w' lo hi cs x := by
  cases k with
  | prim p => exact h
  | str c nl =>
    rcases h with h | ⟨h1, h | ⟨s, b, h2, h3, h4, h5, h6⟩⟩
    · exact .inl h
    · exact .inr ⟨h1, .inl h⟩
    · exact .inr ⟨h1, .inr ⟨s, b, h2, h3, h4, h5, (World.cell?_of_block (w := w) (hk b h4 h5)).trans h6⟩⟩
  | byt c nl =>
    rcases h with h | h | ⟨s, v, h1, h2, h3⟩
    · exact .inl h
    · exact .inr (.inl h)
    · exact .inr (.inr ⟨s, v, h1, h2, h3.keep hD⟩)
  | tags =>
    obtain ⟨l, hx, h⟩ := h
    refine ⟨l, hx, ?_⟩
    rcases h with h | ⟨r, h1, h2, h3, h4⟩
    · exact .inl h
    · exact .inr ⟨r, h1, h2, h3, h4.keep hD (hk r h2 h3)⟩

/-- What a reading comes to: read, and so much is left; or failed. -/
def Comes1 (D rb : Nat) (bs : List UInt8) (bad : Bool) (w' : World) (dc : List UInt8 → Option (Val × List UInt8)) (H : Val → Prop) : Prop :=
  (bad = false ∧ ∃ x bs', dc bs = some (x, bs') ∧ bs'.length ≤ bs.length ∧ H x ∧ ∃ nn, Rd D rb w' nn bs' false) ∨ ((bad = true ∨ dc bs = none) ∧ Rd D rb w' false [] true)

/-- The function F reads a value of the kind k. -/
def RdC (P : Program) (F : Nat) (k : RK) : Prop := Plain P F ∧ ∀ (D rb : Nat) (w : World) (nn : Bool) (bs : List UInt8) (bad : Bool), Rd D rb w nn bs bad → bs.length ≤ lim →
  Calls P F #[.pointer (some ⟨rb, 0, none⟩)] w fun e w' => ∃ v, e = .returned v ∧ (v.cells.size = k.n ∧ (∀ c ∈ v.cells.toList, c.oneCell' = true) ∧ Only (· = rb) w w' ∧
    Comes1 D rb bs bad w' k.dec (fun x => k.leaf D w' w.heap.size w'.heap.size v.cells.toList x))

/-- The function F reads a list's length. -/
def LenC (P : Program) (F : Nat) (c : Bool) : Prop := Plain P F ∧ ∀ (D rb : Nat) (w : World) (nn : Bool) (bs : List UInt8) (bad : Bool), Rd D rb w nn bs bad → bs.length ≤ lim →
  Calls P F #[.pointer (some ⟨rb, 0, none⟩)] w fun e w' => ∃ v, e = .returned v ∧ ∃ r : Int, v = .int .i32 r ∧ Only (· = rb) w w' ∧
    ((bad = false ∧ ∃ bs', lenDec c bs = some (r, bs') ∧ r ≤ bs'.length ∧ bs'.length ≤ bs.length ∧ ∃ nn, Rd D rb w' nn bs' false) ∨ ((bad = true ∨ lenDec c bs = none) ∧ Rd D rb w' false [] true))

/-- The function F tells whether the reader has not failed. -/
def OkC (P : Program) (F : Nat) : Prop := Plain P F ∧ ∀ (D rb : Nat) (w : World) (nn : Bool) (bs : List UInt8) (bad : Bool), Rd D rb w nn bs bad →
  Calls P F #[.pointer (some ⟨rb, 0, none⟩)] w fun e w' => ∃ v, e = .returned v ∧ v = .bool (!bad) ∧ Only (fun _ => False) w w'

/-- What an error is that is none; what one is. -/
def IsErr (bad : Bool) (v : Value) : Prop := if bad then ∃ t u, v = .iface t u else v = .nilIface

/-- The function F tells the reader's error (the variable of the error lies in the block g). -/
def CompC (P : Program) (F : Nat) (I : World → Prop) : Prop := Plain P F ∧ ∀ (D rb : Nat) (w : World) (nn : Bool) (bs : List UInt8) (bad : Bool), I w → Rd D rb w nn bs bad →
  Calls P F #[.pointer (some ⟨rb, 0, none⟩)] w fun e w' => ∃ v, e = .returned v ∧ IsErr bad v ∧ Only (fun _ => False) w w'

/-! ### where a reading stands -/

/-- The numbers of a program that the code names: the reader's type, the type of a pointer to one. -/
structure Gn where
  rt : Nat
  rp : Nat
  i16 : Nat
  i32 : Nat
  bool : Nat
  ok : Nat
  co : Nat

structure RX where
  P : Program
  G : Gn
  D : Nat
  rb : Nat
  ver : Int
  fx : Bool
  flex : Bool
  N : Nat
  M0 : Nat
  I : World → Prop
  /-- nothing below is written -/
  L : Nat
  lrb : L ≤ rb
  /-- what the errors' variable needs is kept -/
  keep : ∀ w w', I w → Only (fun k => L ≤ k) w w' → I w'

structure St (X : RX) (a : Act) (w : World) (nn : Bool) (bs : List UInt8) (bad : Bool) : Prop where
  size : a.tmps.size = X.N
  defers : a.defers = []
  un : gt a 2 = .bool false
  rd : gt a 7 = .pointer (some ⟨X.rb, 0, none⟩)
  ver : gt a 8 = .int .i16 X.ver
  fl : X.fx = true → gt a 9 = .bool X.flex
  st : Rd X.D X.rb w nn bs bad
  lim : bs.length ≤ lim
  inv : X.I w

/-- The slots that a piece of code may change: variables from k on, and what stands behind m. -/
def Ch (M0 k m : Nat) (j : Nat) : Prop := (k ≤ j ∧ j < M0) ∨ m ≤ j

theorem Ag.ch {M0 k m k' m' : Nat} {a b : Act} (h : Ag (Ch M0 k' m') a b) (hk : k ≤ k') (hm : m ≤ m') : Ag (Ch M0 k m) a b :=
  h.mono fun j hj => by unfold Ch at *; omega

theorem St.act {X : RX} {a a' : Act} {w : World} {nn : Bool} {bs : List UInt8} {bad : Bool} {k m : Nat} (h : St X a w nn bs bad) (ha : Ag (Ch X.M0 k m) a a') (hk : 9 < k) (hm : 9 < m) (h0 : 9 < X.M0) : St X a' w nn bs bad := by
  have hn : ∀ j, j ≤ 9 → ¬ Ch X.M0 k m j := fun j hj => by unfold Ch; omega
  exact ⟨ha.size.trans h.size, ha.defers.trans h.defers, (ha.keep 2 (hn _ (by omega))).trans h.un, (ha.keep 7 (hn _ (by omega))).trans h.rd, (ha.keep 8 (hn _ (by omega))).trans h.ver,
    fun hf => (ha.keep 9 (hn _ (by omega))).trans (h.fl hf), h.st, h.lim, h.inv⟩

theorem St.world {X : RX} {a : Act} {w w' : World} {nn nn' : Bool} {bs bs' : List UInt8} {bad bad' : Bool} (h : St X a w nn bs bad) (hr : Rd X.D X.rb w' nn' bs' bad') (hl : bs'.length ≤ bs.length)
    (hk : Only (fun k => X.L ≤ k) w w') : St X a w' nn' bs' bad' :=
  ⟨h.size, h.defers, h.un, h.rd, h.ver, h.fl, hr, Nat.le_trans hl h.lim, X.keep _ _ h.inv hk⟩

theorem St.rb_gt {X : RX} {a : Act} {w : World} {nn : Bool} {bs : List UInt8} {bad : Bool} (h : St X a w nn bs bad) : X.D < X.rb ∧ X.L ≤ X.rb := by
  obtain ⟨_, _, _, _, h, _⟩ := h.st
  exact ⟨h, X.lrb⟩

/-! ### reading one value into a variable -/

inductive RV
  | prim (p : Prim) (F : Nat)
  | str1 (nl : Bool) (u s : Nat)
  | str2 (nl : Bool) (uc up sc sp : Nat)
  | byt1 (nl : Bool) (F : Nat)
  | byt2 (nl : Bool) (Fc Fp : Nat)

def RV.rk (flex : Bool) : RV → RK
  | .prim p _ => .prim p
  | .str1 nl _ _ => .str false nl
  | .str2 nl _ _ _ _ => .str flex nl
  | .byt1 nl _ => .byt false nl
  | .byt2 nl _ _ => .byt flex nl

/-- How many temporaries its code takes. -/
def RV.t : RV → Nat
  | .prim _ _ => 1
  | .str1 _ _ _ => 3
  | .str2 _ _ _ _ _ => 7
  | .byt1 _ _ => 1
  | .byt2 _ _ _ => 3

/-- Its functions do what they must. -/
def RV.ok (P : Program) (fx : Bool) : RV → Prop
  | .prim p F => RdC P F (.prim p)
  | .str1 nl _ s => RdC P s (.str false nl)
  | .str2 nl _ _ sc sp => fx = true ∧ RdC P sc (.str true nl) ∧ RdC P sp (.str false nl)
  | .byt1 nl F => RdC P F (.byt false nl)
  | .byt2 nl Fc Fp => fx = true ∧ RdC P Fc (.byt true nl) ∧ RdC P Fp (.byt false nl)

def nilStr (nl : Bool) : Value := if nl then .pointer none else .string ⟨#[]⟩

def gCall (G : Gn) (F k m : Nat) (c0 : Code) : Code := reg [⟨some m, .call ⟨.value (.func F), #[.tmp 7], #[G.rt]⟩, none⟩, ⟨some k, .assign (.tmp m), none⟩] c0
def gMove (s m : Nat) (c0 : Code) : Code := reg [⟨some m, .move (.tmp s), none⟩] c0

def gRV (G : Gn) (k m : Nat) (sink : Code → Code) : RV → Code → Code
  | .prim _ F, c => .seq (gCall G F k m (pc c [0])) (sink (pc c [1]))
  | .byt1 _ F, c => .seq (gCall G F k m (pc c [0])) (sink (pc c [1]))
  | .str1 nl u s, c => .seq (reg [⟨some k, .assign (.const (nilStr nl)), none⟩] (pc c [0]))
      (.seq (.seq (gMove 2 m (pc c [1, 0, 0])) (.cond (.tmp m) (gCall G u k (m + 1) (pc c [1, 0, 1, 0])) (gCall G s k (m + 2) (pc c [1, 0, 1, 1])))) (sink (pc c [1, 1])))
  | .byt2 _ Fc Fp, c => .seq (reg [⟨some k, .assign (.const (.slice none 0 0)), none⟩] (pc c [0]))
      (.seq (.seq (gMove 9 m (pc c [1, 0, 0])) (.cond (.tmp m) (gCall G Fc k (m + 1) (pc c [1, 0, 1, 0])) (gCall G Fp k (m + 2) (pc c [1, 0, 1, 1])))) (sink (pc c [1, 1])))
  | .str2 nl uc up sc sp, c => .seq (reg [⟨some k, .assign (.const (nilStr nl)), none⟩] (pc c [0]))
      (.seq (.seq (gMove 2 m (pc c [1, 0, 0])) (.cond (.tmp m)
        (.seq (gMove 9 (m + 1) (pc c [1, 0, 1, 0, 0])) (.cond (.tmp (m + 1)) (gCall G uc k (m + 2) (pc c [1, 0, 1, 0, 1, 0])) (gCall G up k (m + 3) (pc c [1, 0, 1, 0, 1, 1]))))
        (.seq (gMove 9 (m + 4) (pc c [1, 0, 1, 1, 0])) (.cond (.tmp (m + 4)) (gCall G sc k (m + 5) (pc c [1, 0, 1, 1, 1, 0])) (gCall G sp k (m + 6) (pc c [1, 0, 1, 1, 1, 1])))))) (sink (pc c [1, 1])))

section
variable {X : RX} {Q : Exit → Act → World → Prop}

/-- What is known behind a reading of one value into the variable k. -/
structure Got (X : RX) (rk : RK) (k m : Nat) (a : Act) (w : World) (bs : List UInt8) (bad : Bool) (a' : Act) (w' : World) (v : Value) : Prop where
  ag : Ag (Ch X.M0 k m) a a'
  val : gt a' k = v
  n : v.cells.size = rk.n
  one : ∀ c ∈ v.cells.toList, c.oneCell' = true
  only : Only (· = X.rb) w w'
  comes : Comes1 X.D X.rb bs bad w' rk.dec (fun x => rk.leaf X.D w' w.heap.size w'.heap.size v.cells.toList x)

theorem gCall_wp {F k m : Nat} {c0 : Code} {rk : RK} (hF : RdC X.P F rk) {a a0 : Act} {w : World} {nn : Bool} {bs : List UInt8} {bad : Bool} {m0 : Nat} (hst : St X a w nn bs bad)
    (h0 : Ag (Ch X.M0 k m0) a0 a) (hk : k < X.M0) (hm : m0 ≤ m) (hM : X.M0 ≤ m) (hN : m < X.N)
    (h : ∀ a' w' v, Got X rk k m0 a0 w bs bad a' w' v → Q .normal a' w') : (gCall X.G F k m c0).wp X.P Q a w := by
  refine wp_reg (wpC_call (R := fun v w' => v.cells.size = rk.n ∧ (∀ c ∈ v.cells.toList, c.oneCell' = true) ∧ Only (· = X.rb) w w' ∧ Comes1 X.D X.rb bs bad w' rk.dec (fun x => rk.leaf X.D w' w.heap.size w'.heap.size v.cells.toList x)) hF.1 ?_ fun v w' hv => ?_)
  · have e : (#[Operand.tmp 7] : Array Operand).map a.eval = #[.pointer (some ⟨X.rb, 0, none⟩)] := by
      have := hst.rd
      simp only [gt] at this
      simp [Act.eval, this]
    rw [e]
    exact hF.2 X.D X.rb w nn bs bad hst.st hst.lim
  · have hs : m < a.tmps.size := by rw [hst.size]; exact hN
    have hk2 : k < (a.put (some m) v).tmps.size := by rw [size_put, hst.size]; omega
    have ha1 : Ag (Ch X.M0 k m0) a0 (a.put (some m) v) := h0.put (by unfold Ch; omega) hs v
    have hev : (a.put (some m) v).eval (.tmp m) = v := by
      show gt (a.put (some m) v) m = v
      rw [gt_put hs, if_pos rfl]
    refine wpC_val (runs_assign _) (wpC_nil ?_)
    rw [hev]
    refine h _ w' v ⟨ha1.put (by unfold Ch; omega) hk2 v, ?_, hv.1, hv.2.1, hv.2.2.1, hv.2.2.2⟩
    rw [gt_put hk2, if_pos rfl]

theorem gMove_wp {s m : Nat} {c0 : Code} {a : Act} {w : World} (hN : m < a.tmps.size) (h : Q .normal (a.put (some m) (gt a s)) w) : (gMove s m c0).wp X.P Q a w :=
  wp_reg (wpC_val (runs_move _) (wpC_nil h))

theorem gRV_wp (v : RV) {k m : Nat} {sink : Code → Code} {c0 : Code} (hv : v.ok X.P X.fx) {a : Act} {w : World} {nn : Bool} {bs : List UInt8} {bad : Bool} (hst : St X a w nn bs bad)
    (h9 : 9 < k) (hk : k < X.M0) (hm : X.M0 ≤ m) (hN : m + v.t ≤ X.N)
    (h : ∀ c a' w' u, Got X (v.rk X.flex) k m a w bs bad a' w' u → (sink c).wp X.P Q a' w') : (gRV X.G k m sink v c0).wp X.P Q a w := by
  cases v with
  | prim p F =>
    simp only [RV.t] at hN
    refine wp_seq (gCall_wp (rk := .prim p) hv hst (Ag.refl _ _) hk (Nat.le_refl m) hm (by omega) fun a' w' u hu => h _ _ _ u hu)
  | byt1 nl F =>
    simp only [RV.t] at hN
    refine wp_seq (gCall_wp (rk := .byt false nl) hv hst (Ag.refl _ _) hk (Nat.le_refl m) hm (by omega) fun a' w' u hu => h _ _ _ u hu)
  | str1 nl u s =>
    simp only [RV.t] at hN
    have hs0 : k < a.tmps.size := by rw [hst.size]; omega
    refine wp_seq (wp_reg (wpC_val (runs_assign _) (wpC_nil ?_)))
    have g1 : Ag (Ch X.M0 k m) a (a.put (some k) (a.eval (.const (nilStr nl)))) := (Ag.refl _ _).put (by unfold Ch; omega) hs0 _
    have st1 := hst.act g1 h9 (by omega) (by omega)
    refine wp_seq (wp_seq (gMove_wp (X := X) (by rw [st1.size]; omega) ?_))
    have g2 := g1.put (d := m) (by unfold Ch; omega) (by rw [st1.size]; omega) (gt (a.put (some k) (a.eval (.const (nilStr nl)))) 2)
    have st2 := hst.act g2 h9 (by omega) (by omega)
    refine wp_cond_false (show gt _ m = _ by rw [gt_put (by rw [st1.size]; omega), if_pos rfl, st1.un]) ?_
    exact gCall_wp (rk := .str false nl) hv st2 g2 hk (by omega) (by omega) (by omega) fun a' w' u hu => h _ _ _ u hu
  | byt2 nl Fc Fp =>
    simp only [RV.t] at hN
    obtain ⟨hfx, hc, hp⟩ := hv
    have hs0 : k < a.tmps.size := by rw [hst.size]; omega
    refine wp_seq (wp_reg (wpC_val (runs_assign _) (wpC_nil ?_)))
    have g1 : Ag (Ch X.M0 k m) a (a.put (some k) (a.eval (.const (.slice none 0 0)))) := (Ag.refl _ _).put (by unfold Ch; omega) hs0 _
    have st1 := hst.act g1 h9 (by omega) (by omega)
    refine wp_seq (wp_seq (gMove_wp (X := X) (by rw [st1.size]; omega) ?_))
    have g2 := g1.put (d := m) (by unfold Ch; omega) (by rw [st1.size]; omega) (gt (a.put (some k) (a.eval (.const (.slice none 0 0)))) 9)
    have st2 := hst.act g2 h9 (by omega) (by omega)
    refine wp_cond (t := X.flex) (show gt _ m = _ by rw [gt_put (by rw [st1.size]; omega), if_pos rfl, st1.fl hfx]) ?_
    cases hf : X.flex with
    | true =>
      rw [if_pos rfl]
      exact gCall_wp (rk := .byt true nl) hc st2 g2 hk (by omega) (by omega) (by omega) fun a' w' u hu => h _ _ _ u (by simpa [RV.rk, hf] using hu)
    | false =>
      rw [if_neg (by decide)]
      exact gCall_wp (rk := .byt false nl) hp st2 g2 hk (by omega) (by omega) (by omega) fun a' w' u hu => h _ _ _ u (by simpa [RV.rk, hf] using hu)
  | str2 nl uc up sc sp =>
    simp only [RV.t] at hN
    obtain ⟨hfx, hc, hp⟩ := hv
    have hs0 : k < a.tmps.size := by rw [hst.size]; omega
    refine wp_seq (wp_reg (wpC_val (runs_assign _) (wpC_nil ?_)))
    have g1 : Ag (Ch X.M0 k m) a (a.put (some k) (a.eval (.const (nilStr nl)))) := (Ag.refl _ _).put (by unfold Ch; omega) hs0 _
    have st1 := hst.act g1 h9 (by omega) (by omega)
    refine wp_seq (wp_seq (gMove_wp (X := X) (by rw [st1.size]; omega) ?_))
    have g2 := g1.put (d := m) (by unfold Ch; omega) (by rw [st1.size]; omega) (gt (a.put (some k) (a.eval (.const (nilStr nl)))) 2)
    have st2 := hst.act g2 h9 (by omega) (by omega)
    refine wp_cond_false (show gt _ m = _ by rw [gt_put (by rw [st1.size]; omega), if_pos rfl, st1.un]) ?_
    refine wp_seq (gMove_wp (X := X) (by rw [st2.size]; omega) ?_)
    have g3 := g2.put (d := m + 4) (by unfold Ch; omega) (by rw [st2.size]; omega) (gt ((a.put (some k) (a.eval (.const (nilStr nl)))).put (some m) (gt (a.put (some k) (a.eval (.const (nilStr nl)))) 2)) 9)
    have st3 := hst.act g3 h9 (by omega) (by omega)
    refine wp_cond (t := X.flex) (show gt _ (m + 4) = _ by rw [gt_put (by rw [st2.size]; omega), if_pos rfl, st2.fl hfx]) ?_
    cases hf : X.flex with
    | true =>
      rw [if_pos rfl]
      exact gCall_wp (rk := .str true nl) hc st3 g3 hk (by omega) (by omega) (by omega) fun a' w' u hu => h _ _ _ u (by simpa [RV.rk, hf] using hu)
    | false =>
      rw [if_neg (by decide)]
      exact gCall_wp (rk := .str false nl) hp st3 g3 hk (by omega) (by omega) (by omega) fun a' w' u hu => h _ _ _ u (by simpa [RV.rk, hf] using hu)
end
end Go.Proofs.YtfimokbgggimmaaDoor.Kf
