/- The reader's own functions: what becomes of the reader's block; and of its octets. -/
import Derived.Test.YtpefipjgcpchaaaGreatDoorRPB
import Derived.Laws.Rows
import Derived.Deep.Quiet
import Derived.Lib.Endian
namespace Go.Proofs.YtpefipjgcpchaaaGreatDoorR.Kf
set_option linter.unusedVariables false
set_option linter.unusedSimpArgs false
open Go Go.RowKit

/-- The reader's block holds this slice and this flag. -/
def RB (rb : Nat) (w : World) (sv : Value) (bad : Bool) (e : Nat) : Prop := w.heap[rb]? = some (.cells #[sv, .bool bad] e (0, 0))

theorem RB.set0 {rb : Nat} {w : World} {sv : Value} {bad : Bool} {e : Nat} (h : RB rb w sv bad e) (v : Value) : RB rb (w.setCell ⟨rb, 0, none⟩ v) v bad e :=
  heap_setCell_same w rb 0 _ e v h
theorem RB.set1 {rb : Nat} {w : World} {sv : Value} {bad : Bool} {e : Nat} (h : RB rb w sv bad e) (b : Bool) : RB rb (w.setCell ⟨rb, 1, none⟩ (.bool b)) sv b e :=
  heap_setCell_same w rb 1 _ e _ h
theorem RB.drew {rb : Nat} {w : World} {sv : Value} {bad : Bool} {e : Nat} (h : RB rb w sv bad e) : RB rb w.drew sv bad e := h
theorem RB.drewN {rb n : Nat} {w : World} {sv : Value} {bad : Bool} {e : Nat} (h : RB rb w sv bad e) : RB rb (w.drewN n) sv bad e := by
  unfold RB World.drewN; exact h
theorem RB.below {rb : Nat} {w w' : World} {sv : Value} {bad : Bool} {e : Nat} (h : RB rb w sv bad e) (hb : Below w.heap.size w w') : RB rb w' sv bad e :=
  (hb.block rb (Array.getElem?_eq_some_iff.1 h).1).trans h
theorem RB.lt {rb : Nat} {w : World} {sv : Value} {bad : Bool} {e : Nat} (h : RB rb w sv bad e) : rb < w.heap.size := (Array.getElem?_eq_some_iff.1 h).1
theorem RB.cells {rb : Nat} {w : World} {sv : Value} {bad : Bool} {e : Nat} (h : RB rb w sv bad e) :
    w.cell? ⟨rb, 0, none⟩ = some sv ∧ w.cell? ⟨rb, 1, none⟩ = some (.bool bad) ∧ w.frozen? ⟨rb, 0, none⟩ = false ∧ w.frozen? ⟨rb, 1, none⟩ = false := by
  unfold RB at h
  simp [World.cell?, World.frozen?, h]

theorem Only.setCell {rb : Nat} {w w' : World} (h : Only (· = rb) w w') (o : Nat) (v : Value) : Only (· = rb) w (w'.setCell ⟨rb, o, none⟩ v) :=
  ⟨h.os, h.tape, h.output, by simpa using h.size, fun k hk hs => (heap_setCell_other _ _ k v hs).trans (h.block k hk hs)⟩
theorem Only.drew {S : Nat → Prop} {w w' : World} (h : Only S w w') : Only S w w'.drew := ⟨h.os, h.tape, h.output, h.size, h.block⟩
theorem Only.drewN {S : Nat → Prop} {w w' : World} {n : Nat} (h : Only S w w') : Only S w (w'.drewN n) := ⟨h.os, h.tape, h.output, h.size, h.block⟩

/-- The octets that are left, as a slice. -/
theorem Sp.len {w : World} {D : Nat} {nn : Bool} {v : Value} {bs : List UInt8} (h : Sp w D nn v bs) : ∃ A c, v = .slice A bs.length c ∧ bs.length ≤ c ∧ (A = none → nn = false ∧ bs = [] ∧ c = 0) := by
  rcases h with ⟨rfl, rfl, rfl⟩ | ⟨rfl, o, c, rfl, hc, _⟩
  · exact ⟨none, 0, rfl, Nat.le_refl _, fun _ => ⟨rfl, rfl, rfl⟩⟩
  · exact ⟨_, c, rfl, hc, fun h => by cases h⟩
theorem Sp.ne {w : World} {D : Nat} {nn : Bool} {v : Value} {bs : List UInt8} (h : Sp w D nn v bs) (h0 : 0 < bs.length) :
    nn = true ∧ ∃ o c, v = .slice (some ⟨D, o, none⟩) bs.length c ∧ bs.length ≤ c ∧ ∀ j b, bs[j]? = some b → w.cell? ⟨D, o + j, none⟩ = some (u8v b) := by
  rcases h with ⟨rfl, rfl, rfl⟩ | ⟨rfl, o, c, rfl, hc, h⟩
  · simp at h0
  · exact ⟨rfl, o, c, rfl, hc, h⟩
/-- What is left behind the first k octets. -/
theorem Sp.drop {w w' : World} {D o c k : Nat} {bs : List UInt8} (hc : bs.length ≤ c) (h : ∀ j b, bs[j]? = some b → w.cell? ⟨D, o + j, none⟩ = some (u8v b)) (hD : w'.heap[D]? = w.heap[D]?) (hk : k ≤ bs.length) {q : Nat} (hq : q = o + k ∨ (q = o ∧ bs.length = k)) :
    Sp w' D true (.slice (some ⟨D, q, none⟩) (bs.length - k : Nat) (c - k : Nat)) (bs.drop k) := by
  refine .inr ⟨rfl, q, c - k, by simp, by simp; omega, fun j b hb => ?_⟩
  rw [List.getElem?_drop] at hb
  rcases hq with rfl | ⟨rfl, he⟩
  · have := h (k + j) b hb
    rw [Nat.add_assoc]
    exact (World.cell?_of_block (w := w) hD).trans this
  · exfalso
    have := (List.getElem?_eq_some_iff.1 hb).1
    omega

/-- A reading has failed: the reader's slice is nil, its flag is set. -/
theorem Rd.fail {D rb : Nat} {w : World} {e : Nat} (h : RB rb w (.slice none 0 0) true e) (hD : D < rb) : Rd D rb w false [] true :=
  ⟨_, e, h, .inl ⟨rfl, rfl, rfl⟩, hD, fun _ => rfl⟩
theorem Rd.go {D rb : Nat} {w : World} {e : Nat} {sv : Value} {bs : List UInt8} {nn : Bool} (h : RB rb w sv false e) (hs : Sp w D nn sv bs) (hD : D < rb) : Rd D rb w nn bs false :=
  ⟨_, e, h, hs, hD, fun h => by cases h⟩

/-- What a reading of one value comes to. -/
def RdP (D rb : Nat) (k : RK) (w : World) (bs : List UInt8) (bad : Bool) (e : Ending) (w' : World) : Prop :=
  ∃ v, e = .returned v ∧ (v.cells.size = k.n ∧ (∀ c ∈ v.cells.toList, c.oneCell' = true) ∧ Only (· = rb) w w' ∧
    Comes1 D rb bs bad w' k.dec (fun x => k.leaf D w' w.heap.size w'.heap.size v.cells.toList x))
theorem rdC {P : Program} {F : Nat} {k : RK} (hp : Plain P F) (h : ∀ (D rb : Nat) (w : World) (nn : Bool) (bs : List UInt8) (bad : Bool), Rd D rb w nn bs bad → bs.length ≤ lim →
    Calls P F #[.pointer (some ⟨rb, 0, none⟩)] w (RdP D rb k w bs bad)) : RdC P F k := ⟨hp, h⟩

theorem RdP.failed {D rb : Nat} {k : RK} {w w' : World} {bs : List UInt8} {bad : Bool} {v : Value} {e : Nat} (hD : D < rb) (hv : v.cells.size = k.n) (h1 : ∀ c ∈ v.cells.toList, c.oneCell' = true) (ho : Only (· = rb) w w')
    (hb : RB rb w' (.slice none 0 0) true e) (h : bad = true ∨ k.dec bs = none) : RdP D rb k w bs bad (.returned v) w' :=
  ⟨v, rfl, hv, h1, ho, .inr ⟨h, Rd.fail hb hD⟩⟩
theorem RdP.read {D rb : Nat} {k : RK} {w w' : World} {bs bs' : List UInt8} {x : Val} {nn : Bool} {v sv : Value} {e : Nat} (hD : D < rb) (hv : v.cells.size = k.n) (h1 : ∀ c ∈ v.cells.toList, c.oneCell' = true) (ho : Only (· = rb) w w')
    (hb : RB rb w' sv false e) (hs : Sp w' D nn sv bs') (hl : bs'.length ≤ bs.length) (hd : k.dec bs = some (x, bs')) (hx : k.leaf D w' w.heap.size w'.heap.size v.cells.toList x) : RdP D rb k w bs false (.returned v) w' :=
  ⟨v, rfl, hv, h1, ho, .inl ⟨rfl, x, bs', hd, hl, hx, nn, Rd.go hb hs hD⟩⟩

/-- The value of a number. -/
theorem leaf_int {D : Nat} {p : Prim} (hp : p ≠ .uuid) {w : World} {lo hi : Nat} {n : Int} (h0 : p.lo ≤ n) (h1 : n < p.hi) {v : Value} (hv : v = primV p n) (hc : v.cells = #[v]) : RK.leaf D (.prim p) w lo hi v.cells.toList (.int n) := by
  refine .inl ⟨hp, n, rfl, h0, h1, ?_⟩
  rw [hc, hv]

theorem beFrom_eq' : ∀ (l : List UInt8) (a : Nat), Lib.beFrom a l = a * 256 ^ l.length + beDec l := by
  intro l
  induction l with
  | nil => intro a; simp [Lib.beFrom, beDec]
  | cons b l ih =>
    intro a
    simp only [Lib.beFrom, beDec, List.length_cons, Nat.pow_succ]
    rw [ih, Nat.add_mul, Nat.mul_assoc, Nat.mul_comm 256]
    omega
theorem beNat_dec (l : List UInt8) : Lib.beNat l = beDec l := by
  unfold Lib.beNat; rw [beFrom_eq']; simp

/-- What a reading of a number comes to. -/
def NumQ (mk : Int → Value) (D rb : Nat) (p : Prim) (w : World) (bs : List UInt8) (bad : Bool) (e : Ending) (w' : World) : Prop :=
  ∃ n : Int, e = .returned (mk n) ∧ p.lo ≤ n ∧ n < p.hi ∧ Only (· = rb) w w' ∧
    ((bad = false ∧ p.n ≤ bs.length ∧ n = p.conv (beDec (bs.take p.n)) ∧ Rd D rb w' true (bs.drop p.n) false) ∨ (n = 0 ∧ (bad = true ∨ bs.length < p.n) ∧ Rd D rb w' false [] true))
abbrev NumP (D rb : Nat) (p : Prim) := NumQ (primV p) D rb p
def NumC (P : Program) (F : Nat) (p : Prim) : Prop := Plain P F ∧ ∀ (D rb : Nat) (w : World) (nn : Bool) (bs : List UInt8) (bad : Bool), Rd D rb w nn bs bad → bs.length ≤ lim →
  Calls P F #[.pointer (some ⟨rb, 0, none⟩)] w (NumP D rb p w bs bad)
theorem primV_cells {p : Prim} (n : Int) : (primV p n).cells = #[primV p n] ∧ (primV p n).oneCell' = true := by cases p <;> exact ⟨rfl, rfl⟩
theorem NumC.rd {P : Program} {F : Nat} {p : Prim} (hp : p ≠ .uuid) (h : NumC P F p) : RdC P F (.prim p) := by
  refine rdC h.1 fun D rb w nn bs bad hr hl => (h.2 D rb w nn bs bad hr hl).mono ?_
  rintro e w' ⟨n, rfl, h0, h1, ho, hc⟩
  have hv := primV_cells (p := p) n
  refine ⟨_, rfl, ?_, ?_, ho, ?_⟩
  · rw [hv.1]; cases p <;> first | rfl | exact absurd rfl hp
  · rw [hv.1]; intro c hc; simp at hc; subst hc; exact hv.2
  · rcases hc with ⟨h2, h3, h4, h5⟩ | ⟨_, h2, h3⟩
    · refine .inl ⟨h2, .int n, bs.drop p.n, ?_, by simp, ?_, true, h5⟩
      · simp only [RK.dec, RK.m, M.w, dec, primDec]
        rw [if_neg (by omega), if_neg hp, h4]
      · exact leaf_int hp h0 h1 rfl hv.1
    · refine .inr ⟨?_, h3⟩
      rcases h2 with h2 | h2
      · exact .inl h2
      · refine .inr ?_
        simp only [RK.dec, RK.m, M.w, dec, primDec]
        rw [if_pos h2]

/-- A number has been read. -/
theorem NumQ.num {mk : Int → Value} {D rb : Nat} {p : Prim} {w w1 : World} {bs : List UInt8} {n c o e : Nat} (hD : D < rb) (hB : RB rb w (.slice (some ⟨D, o, none⟩) n c) false e) (hn : n = bs.length) (hc : n ≤ c)
    (hcell : ∀ j b, bs[j]? = some b → w.cell? ⟨D, o + j, none⟩ = some (u8v b)) (hk : p.n ≤ bs.length) (hb1 : Below w.heap.size w w1) {v : Value} (hv : v = mk (p.conv (beDec (bs.take p.n))))
    (hr : p.lo ≤ p.conv (beDec (bs.take p.n)) ∧ p.conv (beDec (bs.take p.n)) < p.hi) {q : Nat} (hq : q = o + p.n ∨ (q = o ∧ c = p.n)) :
    NumQ mk D rb p w bs false (.returned v) (w1.setCell ⟨rb, 0, none⟩ (.slice (some ⟨D, q, none⟩) (n - p.n) (c - p.n))) := by
  subst hn
  have hDw : D < w.heap.size := Nat.lt_trans hD hB.lt
  refine ⟨_, by rw [hv], hr.1, hr.2, ((Only.refl _ _).of_below hb1).setCell _ _, .inl ⟨rfl, hk, rfl, Rd.go ((hB.below hb1).set0 _) (Sp.drop hc hcell ?_ hk ?_) hD⟩⟩
  · exact (heap_setCell_other _ _ _ _ (by simp; omega)).trans (hb1.block D hDw)
  · rcases hq with h | ⟨h, h'⟩
    · exact .inl h
    · exact .inr ⟨h, by omega⟩
/-- Too little is left for a number. -/
theorem NumQ.short {mk : Int → Value} {D rb : Nat} {p : Prim} (hp : p ≠ .uuid) {w : World} {bs : List UInt8} {sv v : Value} {bad : Bool} {e : Nat} (hD : D < rb) (hB : RB rb w sv bad e) (hk : bs.length < p.n) (hv : v = mk 0) :
    NumQ mk D rb p w bs bad (.returned v) ((w.setCell ⟨rb, 1, none⟩ (.bool true)).setCell ⟨rb, 0, none⟩ (.slice none 0 0)) := by
  refine ⟨0, by rw [hv], by cases p <;> decide, by cases p <;> first | decide | exact absurd rfl hp, ((Only.refl _ _).setCell _ _).setCell _ _, .inr ⟨rfl, .inr hk, Rd.fail ((hB.set1 true).set0 _) hD⟩⟩

/-- The function F takes so many octets. -/
def SpanP (D rb : Nat) (w : World) (nn : Bool) (bs : List UInt8) (bad : Bool) (n : Int) (e : Ending) (w' : World) : Prop :=
  ∃ v, e = .returned v ∧ (Only (· = rb) w w' ∧ ((0 ≤ n ∧ n ≤ bs.length ∧ Sp w' D nn v (bs.take n.toNat) ∧ Rd D rb w' nn (bs.drop n.toNat) bad) ∨ ((n < 0 ∨ (bs.length : Int) < n) ∧ v = .slice none 0 0 ∧ Rd D rb w' false [] true)))
def SpanC (P : Program) (F : Nat) : Prop := Plain P F ∧ ∀ (D rb : Nat) (w : World) (nn : Bool) (bs : List UInt8) (bad : Bool) (n : Int), Rd D rb w nn bs bad → bs.length ≤ lim → -2147483649 ≤ n → n ≤ 4294967296 →
  Calls P F #[.pointer (some ⟨rb, 0, none⟩), .int .i64 n] w (SpanP D rb w nn bs bad n)
theorem SpanP.failed {D rb : Nat} {w : World} {bs : List UInt8} {sv : Value} {nn bad : Bool} {n : Int} {e : Nat} (hD : D < rb) (hB : RB rb w sv bad e) (h : n < 0 ∨ (bs.length : Int) < n) :
    SpanP D rb w nn bs bad n (.returned (.slice none 0 0)) ((w.setCell ⟨rb, 1, none⟩ (.bool true)).setCell ⟨rb, 0, none⟩ (.slice none 0 0)) :=
  ⟨_, rfl, ((Only.refl _ _).setCell _ _).setCell _ _, .inr ⟨h, rfl, Rd.fail ((hB.set1 true).set0 _) hD⟩⟩
theorem SpanP.ok {D rb : Nat} {w : World} {bs : List UInt8} {o c k e q r : Nat} (hD : D < rb) (hB : RB rb w (.slice (some ⟨D, o, none⟩) bs.length c) false e) (hc : bs.length ≤ c) (hk : k ≤ bs.length)
    (hcell : ∀ j b, bs[j]? = some b → w.cell? ⟨D, o + j, none⟩ = some (u8v b)) (hq : q = o + k ∨ (q = o ∧ c = k)) (hr : r = c - k) :
    SpanP D rb w true bs false (k : Int) (.returned (.slice (some ⟨D, o, none⟩) k k)) (w.setCell ⟨rb, 0, none⟩ (.slice (some ⟨D, q, none⟩) (bs.length - k) r)) := by
  subst hr
  have hDk : (w.setCell ⟨rb, 0, none⟩ (.slice (some ⟨D, q, none⟩) (bs.length - k) (c - k))).heap[D]? = w.heap[D]? := heap_setCell_other _ _ _ _ (by simp; omega)
  refine ⟨_, rfl, (Only.refl _ _).setCell _ _, .inl ⟨by omega, by omega, .inr ⟨rfl, o, k, ?_, ?_, ?_⟩, _, e, hB.set0 _, Sp.drop hc hcell hDk (k := k) hk ?_, hD, fun h => by cases h⟩⟩
  · simp; omega
  · simp; omega
  · intro j b hb
    rw [Int.toNat_natCast, List.getElem?_take] at hb
    split at hb
    · exact (World.cell?_of_block (w := w) hDk).trans (hcell j b hb)
    · cases hb
  · rcases hq with h | ⟨h, h'⟩
    · exact .inl h
    · exact .inr ⟨h, by omega⟩
theorem SpanP.none {D rb : Nat} {w : World} {bad : Bool} {e : Nat} (hD : D < rb) (hB : RB rb w (.slice none 0 0) bad e) :
    SpanP D rb w false [] bad ((0 : Nat) : Int) (.returned (.slice none 0 0)) (w.setCell ⟨rb, 0, none⟩ (.slice none 0 0)) :=
  ⟨_, rfl, (Only.refl _ _).setCell _ _, .inl ⟨by simp, by simp, .inl ⟨rfl, rfl, rfl⟩, _, e, hB.set0 _, .inl ⟨rfl, rfl, rfl⟩, hD, fun _ => rfl⟩⟩

/-- A region of the code's own, by what matters of its operations. -/
theorem wp_reg_of {P : Program} {Q : Exit → Act → World → Prop} {a : Act} {w : World} {id : Nat} {ops : Array Oper} (cs : List Core) (h : ops.toList = mkOps cs ops.toList) (hw : wpC P Q cs a w) : (Code.region id ops false).wp P Q a w := by
  refine wp_region_list ?_
  have := hw ops [] ops.toList (by simpa using h)
  rwa [← h] at this

/-- The function F reads a number in groups. -/
def UvrP (D rb : Nat) (w : World) (bs : List UInt8) (bad : Bool) (e : Ending) (w' : World) : Prop :=
  ∃ x : Nat, e = .returned (.int .u32 x) ∧ x < 4294967296 ∧ Only (· = rb) w w' ∧ ((bad = false ∧ ∃ r, uvDec bs = some (x, r) ∧ r.length < bs.length ∧ Rd D rb w' true r false) ∨ (x = 0 ∧ (bad = true ∨ uvDec bs = none) ∧ Rd D rb w' false [] true))
def UvrC (P : Program) (F : Nat) : Prop := Plain P F ∧ ∀ (D rb : Nat) (w : World) (nn : Bool) (bs : List UInt8) (bad : Bool), Rd D rb w nn bs bad → bs.length ≤ lim →
  Calls P F #[.pointer (some ⟨rb, 0, none⟩)] w (UvrP D rb w bs bad)
theorem UvrP.failed {D rb : Nat} {w : World} {bs : List UInt8} {sv : Value} {bad : Bool} {e : Nat} (hD : D < rb) (hB : RB rb w sv bad e) (h : bad = true ∨ uvDec bs = none) :
    UvrP D rb w bs bad (.returned (.int .u32 0)) ((w.setCell ⟨rb, 1, none⟩ (.bool true)).setCell ⟨rb, 0, none⟩ (.slice none 0 0)) :=
  ⟨0, rfl, by decide, ((Only.refl _ _).setCell _ _).setCell _ _, .inr ⟨rfl, h, Rd.fail ((hB.set1 true).set0 _) hD⟩⟩
theorem UvrP.ok {D rb : Nat} {w : World} {bs r : List UInt8} {o c k e q x cc : Nat} (hD : D < rb) (hB : RB rb w (.slice (some ⟨D, o, none⟩) bs.length c) false e) (hc : bs.length ≤ c) (hk : k ≤ bs.length) (h1 : 1 ≤ k) (hx4 : x < 4294967296)
    (hcell : ∀ j b, bs[j]? = some b → w.cell? ⟨D, o + j, none⟩ = some (u8v b)) (hx : uvDec bs = some (x, r)) (hr : r = bs.drop k) (hq : q = o + k ∨ (q = o ∧ c = k)) (hcc : cc = c - k) :
    UvrP D rb w bs false (.returned (.int .u32 x)) (w.setCell ⟨rb, 0, none⟩ (.slice (some ⟨D, q, none⟩) (bs.length - k) cc)) := by
  subst hcc
  subst hr
  have hDk : (w.setCell ⟨rb, 0, none⟩ (.slice (some ⟨D, q, none⟩) (bs.length - k) (c - k))).heap[D]? = w.heap[D]? := heap_setCell_other _ _ _ _ (by simp; omega)
  refine ⟨x, rfl, hx4, (Only.refl _ _).setCell _ _, .inl ⟨rfl, _, hx, by simp; omega, Rd.go (hB.set0 _) (Sp.drop hc hcell hDk (k := k) hk ?_) hD⟩⟩
  rcases hq with h | ⟨h, h'⟩
  · exact .inl h
  · exact .inr ⟨h, by omega⟩

/-- A number of 64 bits without a sign. -/
def U64C (P : Program) (F : Nat) : Prop := Plain P F ∧ ∀ (D rb : Nat) (w : World) (nn : Bool) (bs : List UInt8) (bad : Bool), Rd D rb w nn bs bad → bs.length ≤ lim →
  Calls P F #[.pointer (some ⟨rb, 0, none⟩)] w (NumQ (fun n => .int .u64 n) D rb .f64 w bs bad)
end Go.Proofs.YtpefipjgcpchaaaGreatDoorR.Kf
