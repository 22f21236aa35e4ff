/- The reader's functions in one form for read and failed; texts and octets out of a count and a span. -/
import Derived.Test.YtpefipjgcpchaaaGreatDoorRKbA
import Derived.Laws.IdiomStrings
import Derived.Laws.BytesArg
namespace Go.Proofs.YtpefipjgcpchaaaGreatDoorR.Kf
set_option linter.unusedVariables false
set_option linter.unusedSimpArgs false
open Go Go.RowKit

/-- A count, and what is left: read, or failed. -/
def cntR (c : Bool) (p : Prim) (bs : List UInt8) (bad : Bool) (n : Int) (bs1 : List UInt8) (bad1 nn1 : Bool) : Prop :=
  (bad = false ∧ cntDec c p bs = some (n, bs1) ∧ bad1 = false ∧ nn1 = true) ∨ ((bad = true ∨ cntDec c p bs = none) ∧ n = (if c then -1 else 0) ∧ bs1 = [] ∧ bad1 = true)
def spanR (bs : List UInt8) (bad nn : Bool) (n : Int) (s : List UInt8) (nnv : Bool) (bs2 : List UInt8) (bad2 : Bool) : Prop :=
  (0 ≤ n ∧ n ≤ bs.length ∧ s = bs.take n.toNat ∧ bs2 = bs.drop n.toNat ∧ bad2 = bad ∧ nnv = nn) ∨ ((n < 0 ∨ (bs.length : Int) < n) ∧ s = [] ∧ bs2 = [] ∧ bad2 = true ∧ nnv = false)

theorem NumQ.uni {mk : Int → Value} {D rb : Nat} {p : Prim} (hp : p = .i16 ∨ p = .i32) {w w' : World} {bs : List UInt8} {bad : Bool} {e : Ending} (h : NumQ mk D rb p w bs bad e w') :
    ∃ (n : Int) (nn1 : Bool) (bs1 : List UInt8) (bad1 : Bool), e = .returned (mk n) ∧ -2147483648 ≤ n ∧ n ≤ 2147483647 ∧ Only (· = rb) w w' ∧ Rd D rb w' nn1 bs1 bad1 ∧ bs1.length ≤ bs.length ∧ cntR false p bs bad n bs1 bad1 nn1 := by
  obtain ⟨n, he, h0, h1, ho, h | h⟩ := h
  · obtain ⟨hb, hk, hn, hr⟩ := h
    refine ⟨n, true, _, false, he, ?_, ?_, ho, hr, by simp, .inl ⟨hb, ?_, rfl, rfl⟩⟩
    · rcases hp with rfl | rfl <;> simp only [Prim.lo] at h0 <;> omega
    · rcases hp with rfl | rfl <;> simp only [Prim.hi] at h1 <;> omega
    · simp only [cntDec, Bool.false_eq_true, if_false]
      rw [if_neg (by omega), hn]
  · obtain ⟨hn, hb, hr⟩ := h
    refine ⟨n, false, [], true, he, by omega, by omega, ho, hr, by simp, .inr ⟨?_, by simp [hn], rfl, rfl⟩⟩
    rcases hb with hb | hb
    · exact .inl hb
    · refine .inr ?_
      simp only [cntDec, Bool.false_eq_true, if_false]
      rw [if_pos hb]

theorem UvrP.uni {D rb : Nat} {p : Prim} {w w' : World} {bs : List UInt8} {bad : Bool} {e : Ending} (h : UvrP D rb w bs bad e w') :
    ∃ (x : Nat) (nn1 : Bool) (bs1 : List UInt8) (bad1 : Bool), e = .returned (.int .u32 x) ∧ x < 4294967296 ∧ Only (· = rb) w w' ∧ Rd D rb w' nn1 bs1 bad1 ∧ bs1.length ≤ bs.length ∧ cntR true p bs bad ((x : Int) - 1) bs1 bad1 nn1 := by
  obtain ⟨x, he, hx, ho, h | h⟩ := h
  · obtain ⟨hb, r, hu, hl, hr⟩ := h
    exact ⟨x, true, r, false, he, hx, ho, hr, by omega, .inl ⟨hb, by simp [cntDec, hu], rfl, rfl⟩⟩
  · obtain ⟨hx0, hb, hr⟩ := h
    refine ⟨x, false, [], true, he, hx, ho, hr, by simp, .inr ⟨?_, by simp [hx0], rfl, rfl⟩⟩
    rcases hb with hb | hb
    · exact .inl hb
    · exact .inr (by simp [cntDec, hb])

theorem SpanP.uni {D rb : Nat} {w w' : World} {nn bad : Bool} {bs : List UInt8} {n : Int} {e : Ending} (h : SpanP D rb w nn bs bad n e w') :
    ∃ (v : Value) (nnv : Bool) (s : List UInt8) (nn2 : Bool) (bs2 : List UInt8) (bad2 : Bool), e = .returned v ∧ Only (· = rb) w w' ∧ Rd D rb w' nn2 bs2 bad2 ∧ bs2.length ≤ bs.length ∧ Sp w' D nnv v s ∧ spanR bs bad nn n s nnv bs2 bad2 := by
  obtain ⟨v, he, ho, h | h⟩ := h
  · obtain ⟨h0, h1, hs, hr⟩ := h
    exact ⟨v, nn, _, nn, _, bad, he, ho, hr, by simp, hs, .inl ⟨h0, h1, rfl, rfl, rfl, rfl⟩⟩
  · obtain ⟨h0, hv, hr⟩ := h
    exact ⟨v, false, [], false, [], true, he, ho, hr, by simp, .inl ⟨rfl, hv, rfl⟩, .inr ⟨h0, rfl, rfl, rfl, rfl⟩⟩

/-- Octets as a text. -/
theorem conv_str {P : Program} {w : World} {D : Nat} {nn : Bool} {v : Value} {s : List UInt8} (h : Sp w D nn v s) {src e dst : TypeId} (hs : P.underlying src = some (.slice e)) (he : P.underlying e = some (.int .u8)) (hd : P.underlying dst = some .string) :
    (convert src dst v).run P w = .ok (strV s) w := by
  rcases h with ⟨_, rfl, rfl⟩ | ⟨_, o, c, rfl, _, hc⟩
  · exact run_convert_bytes_nil w src e hs he 0 0 dst hd
  · refine run_convert_bytes_back w src dst e ⟨D, o, none⟩ c s hs he hd ?_
    intro j hj
    have e1 : (⟨D, o, none⟩ : Addr).add j = ⟨D, o + j, none⟩ := by simp [Addr.add]
    rw [e1]
    exact hc j s[j] (by simp)

theorem span_comb {c : Bool} {p : Prim} {bs bs1 bs2 s : List UInt8} {bad bad1 nn1 bad2 nnv : Bool} {n : Int} (h : cntR c p bs bad n bs1 bad1 nn1) (k : spanR bs1 bad1 nn1 n s nnv bs2 bad2) :
    (bad = false ∧ cntDec c p bs = some (n, bs1) ∧ 0 ≤ n ∧ n ≤ bs1.length ∧ s = bs1.take n.toNat ∧ bs2 = bs1.drop n.toNat ∧ bad2 = false ∧ nnv = true) ∨
    ((bad = true ∨ cntDec c p bs = none ∨ (bad = false ∧ cntDec c p bs = some (n, bs1) ∧ (n < 0 ∨ (bs1.length : Int) < n))) ∧ bs2 = [] ∧ bad2 = true) := by
  rcases h with ⟨h1, h2, h3, h4⟩ | ⟨h1, h2, h3, h4⟩
  · rcases k with ⟨k1, k2, k3, k4, k5, k6⟩ | ⟨k1, k2, k3, k4, k5⟩
    · exact .inl ⟨h1, h2, k1, k2, k3, k4, k5.trans h3, k6.trans h4⟩
    · exact .inr ⟨.inr (.inr ⟨h1, h2, k1⟩), k3, k4⟩
  · refine .inr ⟨?_, ?_⟩
    · rcases h1 with h1 | h1
      · exact .inl h1
      · exact .inr (.inl h1)
    · subst h3
      rcases k with ⟨k1, k2, k3, k4, k5, k6⟩ | ⟨k1, k2, k3, k4, k5⟩
      · exact ⟨by simp [k4], k5.trans h4⟩
      · exact ⟨k3, k4⟩

theorem Rd.nil {D rb : Nat} {w : World} {nn : Bool} (h : Rd D rb w nn [] true) : Rd D rb w false [] true := by
  obtain ⟨sv, e, h1, h2, h3, h4⟩ := h
  obtain rfl := h4 rfl
  exact ⟨sv, e, h1, h2, h3, h4⟩

/-- A text has been read. -/
theorem RdP.str {D rb : Nat} {c : Bool} {w w2 : World} {bs bs1 bs2 s : List UInt8} {bad bad1 nn1 nn2 bad2 nnv : Bool} {n : Int} (ho : Only (· = rb) w w2) (h : cntR c .i16 bs bad n bs1 bad1 nn1) (k : spanR bs1 bad1 nn1 n s nnv bs2 bad2) (hl : bs1.length ≤ bs.length) (hr : Rd D rb w2 nn2 bs2 bad2) :
    RdP D rb (.str c false) w bs bad (.returned (strV s)) w2 := by
  refine ⟨_, rfl, rfl, by intro c hc; simp [strV, Value.cells] at hc; subst hc; rfl, ho, ?_⟩
  rcases span_comb h k with ⟨h1, h2, h3, h4, h5, h6, h7, h8⟩ | ⟨h1, h2, h3⟩
  · subst h5 h6 h7
    refine .inl ⟨h1, .bytes (some (bs1.take n.toNat)), bs1.drop n.toNat, ?_, by simp; omega, .inl ⟨rfl, _, rfl, rfl⟩, nn2, hr⟩
    simp only [RK.dec, RK.m, M.w, dec, strDec, h2]
    rw [if_neg (by simp), spanDec, if_neg (by omega)]
  · subst h2 h3
    refine .inr ⟨?_, hr.nil⟩
    rcases h1 with h1 | h1 | ⟨_, h1, h4⟩
    · exact .inl h1
    · exact .inr (by simp only [RK.dec, RK.m, M.w, dec, strDec, h1])
    · refine .inr ?_
      simp only [RK.dec, RK.m, M.w, dec, strDec, h1]
      rw [if_neg (by simp), spanDec, if_pos (by omega)]
/-- Octets have been read. -/
theorem RdP.bytN {D rb : Nat} {c : Bool} {w w2 : World} {bs bs1 bs2 s : List UInt8} {bad bad1 nn1 nn2 bad2 nnv : Bool} {n : Int} {v : Value} (ho : Only (· = rb) w w2) (h : cntR c .i32 bs bad n bs1 bad1 nn1) (hn : 0 ≤ n) (k : spanR bs1 bad1 nn1 n s nnv bs2 bad2) (hl : bs1.length ≤ bs.length) (hr : Rd D rb w2 nn2 bs2 bad2) (hs : Sp w2 D nnv v s) :
    RdP D rb (.byt c true) w bs bad (.returned v) w2 := by
  have hv : v.cells = #[v] ∧ v.oneCell' = true := by rcases hs with ⟨_, rfl, _⟩ | ⟨_, _, _, rfl, _⟩ <;> exact ⟨rfl, rfl⟩
  refine ⟨_, rfl, by rw [hv.1]; rfl, by rw [hv.1]; intro c hc; simp at hc; subst hc; exact hv.2, ho, ?_⟩
  rcases span_comb h k with ⟨h1, h2, h3, h4, h5, h6, h7, h8⟩ | ⟨h1, h2, h3⟩
  · subst h5 h6 h7 h8
    refine .inl ⟨h1, .bytes (some (bs1.take n.toNat)), bs1.drop n.toNat, ?_, by simp; omega, .inr (.inr ⟨_, v, rfl, by rw [hv.1], hs⟩), nn2, hr⟩
    simp only [RK.dec, RK.m, M.w, dec, bytDec, h2]
    rw [if_pos (by simp), if_neg (by omega), spanDec, if_neg (by omega)]
  · subst h2 h3
    refine .inr ⟨?_, hr.nil⟩
    rcases h1 with h1 | h1 | ⟨_, h1, h4⟩
    · exact .inl h1
    · exact .inr (by simp only [RK.dec, RK.m, M.w, dec, bytDec, h1])
    · refine .inr ?_
      simp only [RK.dec, RK.m, M.w, dec, bytDec, h1]
      rw [if_pos (by simp), if_neg (by omega), spanDec, if_pos (by omega)]
/-- No text. -/
theorem RdP.strNull {D rb : Nat} {c : Bool} {w w1 : World} {bs bs1 : List UInt8} {bad bad1 nn1 : Bool} {n : Int} (ho : Only (· = rb) w w1) (h : cntR c .i16 bs bad n bs1 bad1 nn1) (hn : n < 0) (hl : bs1.length ≤ bs.length) (hr : Rd D rb w1 nn1 bs1 bad1) :
    RdP D rb (.str c true) w bs bad (.returned (.pointer none)) w1 := by
  refine ⟨_, rfl, rfl, by intro c hc; simp [Value.cells] at hc; subst hc; rfl, ho, ?_⟩
  rcases h with ⟨h1, h2, rfl, rfl⟩ | ⟨h1, h2, rfl, rfl⟩
  · refine .inl ⟨h1, .bytes none, bs1, ?_, hl, .inr ⟨rfl, .inl ⟨rfl, rfl⟩⟩, true, hr⟩
    simp only [RK.dec, RK.m, M.w, dec, strDec, h2]
    simp [hn]
  · refine .inr ⟨?_, hr.nil⟩
    rcases h1 with h1 | h1
    · exact .inl h1
    · exact .inr (by simp only [RK.dec, RK.m, M.w, dec, strDec, h1])
theorem RdP.bytNull {D rb : Nat} {c : Bool} {w w1 : World} {bs bs1 : List UInt8} {bad bad1 nn1 : Bool} {n : Int} (ho : Only (· = rb) w w1) (h : cntR c .i32 bs bad n bs1 bad1 nn1) (hn : n < 0) (hl : bs1.length ≤ bs.length) (hr : Rd D rb w1 nn1 bs1 bad1) :
    RdP D rb (.byt c true) w bs bad (.returned (.slice none 0 0)) w1 := by
  refine ⟨_, rfl, rfl, by intro c hc; simp [Value.cells] at hc; subst hc; rfl, ho, ?_⟩
  rcases h with ⟨h1, h2, rfl, rfl⟩ | ⟨h1, h2, rfl, rfl⟩
  · refine .inl ⟨h1, .bytes none, bs1, ?_, hl, .inl ⟨rfl, rfl, rfl⟩, true, hr⟩
    simp only [RK.dec, RK.m, M.w, dec, bytDec, h2]
    simp [hn]
  · refine .inr ⟨?_, hr.nil⟩
    rcases h1 with h1 | h1
    · exact .inl h1
    · exact .inr (by simp only [RK.dec, RK.m, M.w, dec, bytDec, h1])
/-- Octets, never null, have been read. -/
theorem RdP.bytS {D rb : Nat} {c : Bool} {w w2 : World} {bs bs1 bs2 s : List UInt8} {bad bad1 nn1 nn2 bad2 nnv : Bool} {n : Int} {v : Value} (ho : Only (· = rb) w w2) (h : cntR c .i32 bs bad n bs1 bad1 nn1) (hn : n ≠ -1) (k : spanR bs1 bad1 nn1 n s nnv bs2 bad2) (hl : bs1.length ≤ bs.length) (hr : Rd D rb w2 nn2 bs2 bad2) (hs : Sp w2 D nnv v s) :
    RdP D rb (.byt c false) w bs bad (.returned v) w2 := by
  have hv : v.cells = #[v] ∧ v.oneCell' = true := by rcases hs with ⟨_, rfl, _⟩ | ⟨_, _, _, rfl, _⟩ <;> exact ⟨rfl, rfl⟩
  refine ⟨_, rfl, by rw [hv.1]; rfl, by rw [hv.1]; intro c hc; simp at hc; subst hc; exact hv.2, ho, ?_⟩
  rcases span_comb h k with ⟨h1, h2, h3, h4, h5, h6, h7, h8⟩ | ⟨h1, h2, h3⟩
  · subst h5 h6 h7 h8
    refine .inl ⟨h1, .bytes (some (bs1.take n.toNat)), bs1.drop n.toNat, ?_, by simp; omega, .inr (.inr ⟨_, v, rfl, by rw [hv.1], hs⟩), nn2, hr⟩
    simp only [RK.dec, RK.m, M.w, dec, bytDec, h2]
    rw [if_neg (by simp), if_neg hn, spanDec, if_neg (by omega)]
  · subst h2 h3
    refine .inr ⟨?_, hr.nil⟩
    rcases h1 with h1 | h1 | ⟨_, h1, h4⟩
    · exact .inl h1
    · exact .inr (by simp only [RK.dec, RK.m, M.w, dec, bytDec, h1])
    · refine .inr ?_
      simp only [RK.dec, RK.m, M.w, dec, bytDec, h1]
      rw [if_neg (by simp), if_neg hn, spanDec, if_pos (by omega)]
/-- No octets where octets must be: none. -/
theorem RdP.bytE {D rb : Nat} {c : Bool} {w w1 w2 : World} {bs bs1 : List UInt8} {bad bad1 nn1 : Bool} {p : Option Addr} (ho : Only (· = rb) w w2) (h : cntR c .i32 bs bad (-1) bs1 bad1 nn1) (hl : bs1.length ≤ bs.length) (hr : Rd D rb w2 nn1 bs1 bad1) :
    RdP D rb (.byt c false) w bs bad (.returned (.slice p 0 0)) w2 := by
  refine ⟨_, rfl, rfl, by intro c hc; simp [Value.cells] at hc; subst hc; rfl, ho, ?_⟩
  rcases h with ⟨h1, h2, rfl, rfl⟩ | ⟨h1, h2, rfl, rfl⟩
  · refine .inl ⟨h1, .bytes (some []), bs1, ?_, hl, .inr (.inl ⟨rfl, rfl, p, rfl⟩), true, hr⟩
    simp only [RK.dec, RK.m, M.w, dec, bytDec, h2]
    simp
  · refine .inr ⟨?_, hr.nil⟩
    rcases h1 with h1 | h1
    · exact .inl h1
    · exact .inr (by simp only [RK.dec, RK.m, M.w, dec, bytDec, h1])
theorem Only.alloc {S : Nat → Prop} {w w' : World} (h : Only S w w') (o : Obj) : Only S w (w'.alloc o) :=
  h.of_below ((Below.refl _ _).alloc (Nat.le_refl _) o)
/-- A text that may be none has been read: it lies in a block of its own. -/
theorem RdP.bytE' {D rb : Nat} {c : Bool} {w w1 : World} {bs bs1 : List UInt8} {bad bad1 nn1 : Bool} {n : Int} {p : Option Addr} (ho : Only (· = rb) w w1) (h : cntR c .i32 bs bad n bs1 bad1 nn1) (hn : n = -1) (hl : bs1.length ≤ bs.length) (hr : Rd D rb w1 nn1 bs1 bad1) (o : Obj) (hD : D < w1.heap.size) :
    RdP D rb (.byt c false) w bs bad (.returned (.slice p 0 0)) (w1.alloc o) := by
  subst hn
  have hrl := hr.lt
  exact RdP.bytE (w1 := w1) (ho.alloc o) h hl (hr.keep ((MapKept.heap_alloc w1 o).2 D hD) ((MapKept.heap_alloc w1 o).2 rb hrl))
theorem RdP.strN {D rb : Nat} {c : Bool} {w w2 : World} {bs bs1 bs2 s : List UInt8} {bad bad1 nn1 nn2 bad2 nnv : Bool} {n : Int} {t : Nat} (ho : Only (· = rb) w w2) (h : cntR c .i16 bs bad n bs1 bad1 nn1) (hn : 0 ≤ n) (k : spanR bs1 bad1 nn1 n s nnv bs2 bad2) (hl : bs1.length ≤ bs.length) (hr : Rd D rb w2 nn2 bs2 bad2) :
    RdP D rb (.str c true) w bs bad (.returned (.pointer (some ⟨w2.heap.size, 0, none⟩))) (w2.alloc (.cells #[.string ⟨s.toArray⟩] t)) := by
  have hb : Below w2.heap.size w2 (w2.alloc (.cells #[.string ⟨s.toArray⟩] t)) := (Below.refl _ _).alloc (Nat.le_refl _) _
  have hD : D < rb := by obtain ⟨_, _, _, _, h, _⟩ := hr; exact h
  have hr3 : Rd D rb (w2.alloc (.cells #[.string ⟨s.toArray⟩] t)) nn2 bs2 bad2 := hr.keep (hb.block D (Nat.lt_trans hD hr.lt)) (hb.block rb hr.lt)
  refine ⟨_, rfl, rfl, by intro c hc; simp [Value.cells] at hc; subst hc; rfl, ho.alloc _, ?_⟩
  rcases span_comb h k with ⟨h1, h2, h3, h4, h5, h6, h7, h8⟩ | ⟨h1, h2, h3⟩
  · subst h5 h6 h7
    refine .inl ⟨h1, .bytes (some (bs1.take n.toNat)), bs1.drop n.toNat, ?_, by simp; omega, .inr ⟨rfl, .inr ⟨_, w2.heap.size, rfl, rfl, ho.size, by simp, ?_⟩⟩, nn2, hr3⟩
    · simp only [RK.dec, RK.m, M.w, dec, strDec, h2]
      rw [if_neg (by omega), spanDec, if_neg (by omega)]
    · exact World.cell?_alloc_mark w2 _ t _ 0
  · subst h2 h3
    refine .inr ⟨?_, hr3.nil⟩
    rcases h1 with h1 | h1 | ⟨_, h1, h4⟩
    · exact .inl h1
    · exact .inr (by simp only [RK.dec, RK.m, M.w, dec, strDec, h1])
    · refine .inr ?_
      simp only [RK.dec, RK.m, M.w, dec, strDec, h1]
      rw [if_neg (by omega), spanDec, if_pos (by omega)]
/-- The count as the length of a list. -/
def lenN (c : Bool) (n : Int) : Int := if c then (if n ≤ 2147483647 then n else n - 4294967296) else n
theorem lenDec_cnt (c : Bool) (bs : List UInt8) : lenDec c bs = (cntDec c .i32 bs).bind fun x => if (x.2.length : Int) < lenN c x.1 then none else some (lenN c x.1, x.2) := by
  cases c
  · simp only [lenDec, cntDec, lenN, Bool.false_eq_true, if_false]
    by_cases h : bs.length < 4
    · rw [if_pos h, if_pos (show bs.length < Prim.i32.n from h)]; rfl
    · rw [if_neg h, if_neg (show ¬ bs.length < Prim.i32.n from h)]; rfl
  · simp only [lenDec, cntDec, lenN, if_true]
    cases uvDec bs with
    | none => rfl
    | some x =>
      obtain ⟨u, l⟩ := x
      simp only [Option.map_some, Option.bind_some]
      have e : (if u ≤ 2147483648 then (u : Int) - 1 else (u : Int) - 4294967296 - 1) = (if (u : Int) - 1 ≤ 2147483647 then (u : Int) - 1 else (u : Int) - 1 - 4294967296) := by
        by_cases h : u ≤ 2147483648
        · rw [if_pos h, if_pos (by omega)]
        · rw [if_neg h, if_neg (by omega)]; omega
      rw [e]

def LenP (D rb : Nat) (c : Bool) (w : World) (bs : List UInt8) (bad : Bool) (e : Ending) (w' : World) : Prop :=
  ∃ v, e = .returned v ∧ ∃ r : Int, v = .int .i32 r ∧ Only (· = rb) w w' ∧
    ((bad = false ∧ ∃ bs', lenDec c bs = some (r, bs') ∧ r ≤ bs'.length ∧ bs'.length ≤ bs.length ∧ ∃ nn, Rd D rb w' nn bs' false) ∨ ((bad = true ∨ lenDec c bs = none) ∧ Rd D rb w' false [] true))
theorem lenP_short {D rb : Nat} {c : Bool} {w w1 : World} {bs bs1 : List UInt8} {bad bad1 nn1 : Bool} {n r : Int} {sv : Value} {e : Nat} (hD : D < rb) (hB : RB rb w1 sv bad1 e) (ho : Only (· = rb) w w1) (h : cntR c .i32 bs bad n bs1 bad1 nn1) (hr : r = 0) (hl : (bs1.length : Int) < lenN c n) :
    LenP D rb c w bs bad (.returned (.int .i32 r)) ((w1.setCell ⟨rb, 1, none⟩ (.bool true)).setCell ⟨rb, 0, none⟩ (.slice none 0 0)) := by
  refine ⟨_, rfl, r, rfl, (ho.setCell _ _).setCell _ _, .inr ⟨?_, Rd.fail ((hB.set1 true).set0 _) hD⟩⟩
  rcases h with ⟨h1, h2, _⟩ | ⟨h1, _⟩
  · refine .inr ?_
    rw [lenDec_cnt, h2]
    simp only [Option.bind_some]
    rw [if_pos hl]
  · rcases h1 with h1 | h1
    · exact .inl h1
    · exact .inr (by rw [lenDec_cnt, h1]; rfl)
theorem lenP_ok {D rb : Nat} {c : Bool} {w w1 : World} {bs bs1 : List UInt8} {bad bad1 nn1 : Bool} {n r : Int} (hR : Rd D rb w1 nn1 bs1 bad1) (ho : Only (· = rb) w w1) (hl1 : bs1.length ≤ bs.length) (h : cntR c .i32 bs bad n bs1 bad1 nn1) (hr : r = lenN c n) (hl : ¬ (bs1.length : Int) < lenN c n) :
    LenP D rb c w bs bad (.returned (.int .i32 r)) w1 := by
  refine ⟨_, rfl, r, rfl, ho, ?_⟩
  rcases h with ⟨h1, h2, rfl, rfl⟩ | ⟨h1, h2, rfl, rfl⟩
  · refine .inl ⟨h1, bs1, ?_, by rw [hr]; omega, hl1, true, hR⟩
    rw [lenDec_cnt, h2]
    simp only [Option.bind_some]
    rw [if_neg hl, hr]
  · refine .inr ⟨?_, hR.nil⟩
    rcases h1 with h1 | h1
    · exact .inl h1
    · exact .inr (by rw [lenDec_cnt, h1]; rfl)
theorem num64 {D rb : Nat} {w w1 : World} {bs : List UInt8} {bad : Bool} {n : Int} (h0 : Prim.f64.lo ≤ n) (h1 : n < Prim.f64.hi) (ho : Only (· = rb) w w1)
    (hc : (bad = false ∧ Prim.f64.n ≤ bs.length ∧ n = Prim.f64.conv (beDec (bs.take Prim.f64.n)) ∧ Rd D rb w1 true (bs.drop Prim.f64.n) false) ∨ (n = 0 ∧ (bad = true ∨ bs.length < Prim.f64.n) ∧ Rd D rb w1 false [] true)) :
    NumP D rb .i64 w bs bad (.returned (.int .i64 (wrap64 n))) w1 := by
  simp only [Prim.lo, Prim.hi] at h0 h1
  have hw : wrap64 n = Prim.i64.conv n.toNat := by
    simp only [Prim.conv, wrap64]
    split <;> omega
  refine ⟨wrap64 n, rfl, ?_, ?_, ho, ?_⟩
  · simp only [Prim.lo, wrap64]; omega
  · simp only [Prim.hi, wrap64]; omega
  · rcases hc with ⟨a, b, c, d⟩ | ⟨a, b, d⟩
    · refine .inl ⟨a, b, ?_, d⟩
      rw [hw, c]
      rfl
    · exact .inr ⟨by rw [a]; simp [wrap64], b, d⟩
theorem conv_b (x0 : UInt8) (l : List UInt8) : Value.bool ((x0.toNat : Int) != 0) = primV .bool (Prim.conv .bool (beDec ((x0 :: l).take (Prim.n .bool)))) := by
  simp only [Prim.n, List.take_succ_cons, List.take_zero, beDec, Prim.conv, primV]
  by_cases h : x0.toNat = 0
  · simp [h]
  · simp [h]
theorem rng_b (x0 : UInt8) (l : List UInt8) : Prim.lo .bool ≤ Prim.conv .bool (beDec ((x0 :: l).take (Prim.n .bool))) ∧ Prim.conv .bool (beDec ((x0 :: l).take (Prim.n .bool))) < Prim.hi .bool := by
  simp only [Prim.conv, Prim.lo, Prim.hi]
  split <;> omega
theorem conv_i (x0 : UInt8) (l : List UInt8) : Value.int .i8 (IntKind.i8.wrap (x0.toNat : Int)) = primV .i8 (Prim.conv .i8 (beDec ((x0 :: l).take (Prim.n .i8)))) := by
  have e : IntKind.i8.wrap (x0.toNat : Int) = if 128 ≤ (x0.toNat : Int) % 256 then (x0.toNat : Int) % 256 - 256 else (x0.toNat : Int) % 256 := by
    simp [IntKind.wrap, IntKind.bits, IntKind.signed]
  have hx := x0.toNat_lt
  simp only [Prim.n, List.take_succ_cons, List.take_zero, beDec, Prim.conv, primV, e, List.length_nil, Nat.pow_zero, Nat.mul_one, Nat.add_zero]
  congr 1
  split <;> split <;> omega
theorem rng_i (x0 : UInt8) (l : List UInt8) : Prim.lo .i8 ≤ Prim.conv .i8 (beDec ((x0 :: l).take (Prim.n .i8))) ∧ Prim.conv .i8 (beDec ((x0 :: l).take (Prim.n .i8))) < Prim.hi .i8 := by
  have hx := x0.toNat_lt
  simp only [Prim.n, List.take_succ_cons, List.take_zero, beDec, Prim.conv, Prim.lo, Prim.hi, List.length_nil, Nat.pow_zero, Nat.mul_one, Nat.add_zero]
  split <;> omega
end Go.Proofs.YtpefipjgcpchaaaGreatDoorR.Kf
