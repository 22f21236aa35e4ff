/- What lies in memory as a value of a form: relations between cells of a world and values, and what keeps them. -/
import Derived.Test.YtfimokbgggimmaaDoorWire
import Derived.Test.YtfimokbgggimmaaDoorStep
namespace Go.Proofs.YtfimokbgggimmaaDoor.Kf
set_option linter.unusedVariables false
set_option linter.unusedSimpArgs false
open Go Go.RowKit

/-- A form with its places in memory. -/
inductive M
  | unit
  | fld (o : Nat) (m rest : M)
  | tags
  | prim (p : Prim)
  | str (c nl : Bool)
  | byt (c nl : Bool)
  | arr (c nl nr : Bool) (sz : Nat) (e : M)
  | opt (sz : Nat) (e : M)
  deriving DecidableEq

def M.w : M → W
  | .unit => .unit
  | .fld _ m r => .pair m.w r.w
  | .tags => .tags
  | .prim p => .prim p
  | .str c nl => .str c nl
  | .byt c nl => .byt c nl
  | .arr c nl nr _ e => .arr c nl nr e.w
  | .opt _ e => .opt e.w

/-- How many cells, from its place on. -/
def M.cells : M → Nat
  | .unit => 0
  | .fld o m r => max (o + m.cells) r.cells
  | .prim .uuid => 16
  | _ => 1

def u8v (b : UInt8) : Value := .int .u8 b.toNat
def strV (s : List UInt8) : Value := .string ⟨s.toArray⟩

/-- A number of a kind in its cell. -/
def primV : Prim → Int → Value
  | .bool, n => .bool (n != 0)
  | .i8, n => .int .i8 n
  | .i16, n => .int .i16 n
  | .i32, n => .int .i32 n
  | .i64, n => .int .i64 n
  | .u16, n => .int .u16 n
  | .f64, n => .float .f64 n.toNat
  | .uuid, _ => .bool false

/-- A slice of octets in the block D (nn: it is not nil). -/
def Sp (w : World) (D : Nat) (nn : Bool) (v : Value) (bs : List UInt8) : Prop :=
  (nn = false ∧ v = .slice none 0 0 ∧ bs = []) ∨
  (nn = true ∧ ∃ o c, v = .slice (some ⟨D, o, none⟩) bs.length c ∧ bs.length ≤ c ∧ ∀ j b, bs[j]? = some b → w.cell? ⟨D, o + j, none⟩ = some (u8v b))

theorem Sp.keep {w w' : World} {D : Nat} {nn : Bool} {v : Value} {bs : List UInt8} (h : Sp w D nn v bs) (hD : w'.heap[D]? = w.heap[D]?) : Sp w' D nn v bs := by
  rcases h with h | ⟨h0, o, c, h1, h2, h3⟩
  · exact .inl h
  · exact .inr ⟨h0, o, c, h1, h2, fun j b hb => (World.cell?_of_block (w := w) hD).trans (h3 j b hb)⟩

/-- A map of tags: its entries, in whatever order. -/
def MapAt (w : World) (D r : Nat) (l : List (Nat × List UInt8)) : Prop :=
  ∃ (es : Array MapEntry) (clock : Nat), w.heap[r]? = some (.map es clock) ∧ ∃ p : List (Nat × List UInt8), p.Perm l ∧ es.toList.length = p.length ∧
    (∀ (j : Nat) (e : MapEntry) (x : Nat × List UInt8), es.toList[j]? = some e → p[j]? = some x → e.key = .int .u32 x.1 ∧ e.born < clock ∧ ∃ nn, Sp w D nn e.val x.2)

theorem MapAt.keep {w w' : World} {D r : Nat} {l : List (Nat × List UInt8)} (h : MapAt w D r l) (hD : w'.heap[D]? = w.heap[D]?) (hr : w'.heap[r]? = w.heap[r]?) : MapAt w' D r l := by
  obtain ⟨es, clock, h1, p, h2, h3, h4⟩ := h
  exact ⟨es, clock, hr.trans h1, p, h2, h3, fun j e x he hx => let ⟨a, b, nn, c⟩ := h4 j e x he hx; ⟨a, b, nn, c.keep hD⟩⟩

/-- Cells in a row. -/
def Cells (w : World) (b off : Nat) (cs : List Value) : Prop := ∀ j v, cs[j]? = some v → w.cell? ⟨b, off + j, none⟩ = some v

def LPrim (p : Prim) (cs : List Value) (x : Val) : Prop :=
  (p ≠ .uuid ∧ ∃ n, x = .int n ∧ p.lo ≤ n ∧ n < p.hi ∧ cs = [primV p n]) ∨ (p = .uuid ∧ ∃ s : List UInt8, s.length = 16 ∧ x = .bytes (some s) ∧ cs = s.map u8v)
def LStr (nl : Bool) (w : World) (lo hi : Nat) (cs : List Value) (x : Val) : Prop :=
  (nl = false ∧ ∃ s : List UInt8, x = .bytes (some s) ∧ cs = [strV s]) ∨
  (nl = true ∧ ((x = .bytes none ∧ cs = [.pointer none]) ∨ ∃ (s : List UInt8) (b : Nat), x = .bytes (some s) ∧ cs = [.pointer (some ⟨b, 0, none⟩)] ∧ lo ≤ b ∧ b < hi ∧ w.cell? ⟨b, 0, none⟩ = some (strV s)))
def LByt (D : Nat) (nl : Bool) (w : World) (cs : List Value) (x : Val) : Prop :=
  (nl = true ∧ x = .bytes none ∧ cs = [.slice none 0 0]) ∨
  (nl = false ∧ x = .bytes (some []) ∧ ∃ p, cs = [.slice p 0 0]) ∨
  ∃ (s : List UInt8) (v : Value), x = .bytes (some s) ∧ cs = [v] ∧ Sp w D true v s
def LTags (D : Nat) (w : World) (lo hi : Nat) (cs : List Value) (x : Val) : Prop :=
  ∃ l : List (Nat × List UInt8), x = .tags l ∧ ((l = [] ∧ cs = [.map none]) ∨ ∃ r, cs = [.map (some r)] ∧ lo ≤ r ∧ r < hi ∧ MapAt w D r l)
def LArr (H : World → Nat → Nat → Nat → Nat → Val → Prop) (nl : Bool) (sz : Nat) (w : World) (lo hi : Nat) (cs : List Value) (x : Val) : Prop :=
  (nl = true ∧ x = .list none ∧ cs = [.slice none 0 0]) ∨
  (nl = false ∧ x = .list (some []) ∧ cs = [.slice none 0 0]) ∨
  ∃ (l : List Val) (A c : Nat), x = .list (some l) ∧ cs = [.slice (some ⟨A, 0, none⟩) l.length c] ∧ lo ≤ A ∧ A < hi ∧
    ∃ f : Nat → Nat × Nat, ∀ j v, l[j]? = some v → A < (f j).1 ∧ (f j).2 ≤ hi ∧ H w (f j).1 (f j).2 A (j * sz) v
def LOpt (H : World → Nat → Nat → Nat → Nat → Val → Prop) (w : World) (lo hi : Nat) (cs : List Value) (x : Val) : Prop :=
  (x = .opt none ∧ cs = [.pointer none]) ∨ ∃ (v : Val) (b : Nat), x = .opt (some v) ∧ cs = [.pointer (some ⟨b, 0, none⟩)] ∧ lo ≤ b ∧ b < hi ∧ H w (b + 1) hi b 0 v

/-- A form at a place; its further blocks lie from lo on and below hi. -/
def Holds (D : Nat) : M → World → Nat → Nat → Nat → Nat → Val → Prop
  | .unit, _, lo, hi, _, _, x => x = .unit ∧ lo ≤ hi
  | .fld o m r, w, lo, hi, b, off, x => ∃ mid y z, x = .pair y z ∧ Holds D m w lo mid b (off + o) y ∧ Holds D r w mid hi b off z
  | .tags, w, lo, hi, b, off, x => lo ≤ hi ∧ ∃ cs, Cells w b off cs ∧ LTags D w lo hi cs x
  | .prim p, w, lo, hi, b, off, x => lo ≤ hi ∧ ∃ cs, Cells w b off cs ∧ LPrim p cs x
  | .str _ nl, w, lo, hi, b, off, x => lo ≤ hi ∧ ∃ cs, Cells w b off cs ∧ LStr nl w lo hi cs x
  | .byt _ nl, w, lo, hi, b, off, x => lo ≤ hi ∧ ∃ cs, Cells w b off cs ∧ LByt D nl w cs x
  | .arr _ nl _ sz e, w, lo, hi, b, off, x => lo ≤ hi ∧ ∃ cs, Cells w b off cs ∧ LArr (Holds D e) nl sz w lo hi cs x
  | .opt _ e, w, lo, hi, b, off, x => lo ≤ hi ∧ ∃ cs, Cells w b off cs ∧ LOpt (Holds D e) w lo hi cs x

theorem Holds.le {D : Nat} : ∀ {m : M} {w : World} {lo hi b off : Nat} {x : Val}, Holds D m w lo hi b off x → lo ≤ hi := by
  intro m
  induction m with
  | fld o m r ihm ihr =>
    intro w lo hi b off x h
    obtain ⟨mid, y, z, _, h1, h2⟩ := h
    exact Nat.le_trans (ihm h1) (ihr h2)
  | unit => intro w lo hi b off x h; exact h.2
  | _ => intro w lo hi b off x h; exact h.1

theorem Cells.keep {w w' : World} {b off n : Nat} {cs : List Value} (h : Cells w b off cs) (hn : cs.length ≤ n) (hc : ∀ j, j < n → w'.cell? ⟨b, off + j, none⟩ = w.cell? ⟨b, off + j, none⟩) : Cells w' b off cs :=
  fun j v hv => (hc j (by have := (List.getElem?_eq_some_iff.1 hv).1; omega)).trans (h j v hv)

/-- What lies there stays: where its further blocks, the block of the octets and its own cells are as they were. -/
theorem Holds.keep {D : Nat} : ∀ {m : M} {w w' : World} {lo hi b off : Nat} {x : Val}, Holds D m w lo hi b off x → w'.heap[D]? = w.heap[D]? →
    (∀ k, lo ≤ k → k < hi → w'.heap[k]? = w.heap[k]?) → (∀ j, j < m.cells → w'.cell? ⟨b, off + j, none⟩ = w.cell? ⟨b, off + j, none⟩) → Holds D m w' lo hi b off x := by
  intro m
  induction m with
  | unit => intro w w' lo hi b off x h _ _ _; exact h
  | fld o m r ihm ihr =>
    intro w w' lo hi b off x h hD hk hc
    obtain ⟨mid, y, z, hx, h1, h2⟩ := h
    have l1 := h1.le
    have l2 := h2.le
    refine ⟨mid, y, z, hx, ihm h1 hD (fun k a b => hk k a (by omega)) ?_, ihr h2 hD (fun k a b => hk k (by omega) b) ?_⟩
    · intro j hj
      have := hc (o + j) (by simp only [M.cells]; omega)
      rwa [← Nat.add_assoc] at this
    · intro j hj
      exact hc j (by simp only [M.cells]; omega)
  | tags =>
    intro w w' lo hi b off x h hD hk hc
    obtain ⟨l0, cs, h1, l, hx, h2⟩ := h
    refine ⟨l0, cs, h1.keep (n := 1) ?_ hc, l, hx, ?_⟩
    · rcases h2 with ⟨_, rfl⟩ | ⟨r, rfl, _⟩ <;> simp
    · rcases h2 with h2 | ⟨r, h3, h4, h5, h6⟩
      · exact .inl h2
      · exact .inr ⟨r, h3, h4, h5, h6.keep hD (hk r h4 h5)⟩
  | prim p =>
    intro w w' lo hi b off x h hD hk hc
    obtain ⟨l0, cs, h1, h2⟩ := h
    refine ⟨l0, cs, h1.keep (n := (M.prim p).cells) ?_ hc, h2⟩
    rcases h2 with ⟨hp, n, _, _, _, rfl⟩ | ⟨rfl, s, hs, _, rfl⟩
    · cases p <;> simp [M.cells]
    · simp [M.cells, hs]
  | str c nl =>
    intro w w' lo hi b off x h hD hk hc
    obtain ⟨l0, cs, h1, h2⟩ := h
    refine ⟨l0, cs, h1.keep (n := 1) ?_ hc, ?_⟩
    · rcases h2 with ⟨_, s, _, rfl⟩ | ⟨_, ⟨_, rfl⟩ | ⟨s, q, _, rfl, _⟩⟩ <;> simp
    · rcases h2 with h2 | ⟨h3, h2 | ⟨s, q, h4, h5, h6, h7, h8⟩⟩
      · exact .inl h2
      · exact .inr ⟨h3, .inl h2⟩
      · exact .inr ⟨h3, .inr ⟨s, q, h4, h5, h6, h7, (World.cell?_of_block (w := w) (hk q h6 h7)).trans h8⟩⟩
  | byt c nl =>
    intro w w' lo hi b off x h hD hk hc
    obtain ⟨l0, cs, h1, h2⟩ := h
    refine ⟨l0, cs, h1.keep (n := 1) ?_ hc, ?_⟩
    · rcases h2 with ⟨_, _, rfl⟩ | ⟨_, _, p, rfl⟩ | ⟨s, v, _, rfl, _⟩ <;> simp
    · rcases h2 with h2 | h2 | ⟨s, v, h3, h4, h5⟩
      · exact .inl h2
      · exact .inr (.inl h2)
      · exact .inr (.inr ⟨s, v, h3, h4, h5.keep hD⟩)
  | arr c nl nr sz e ih =>
    intro w w' lo hi b off x h hD hk hc
    obtain ⟨l0, cs, h1, h2⟩ := h
    refine ⟨l0, cs, h1.keep (n := 1) ?_ hc, ?_⟩
    · rcases h2 with ⟨_, _, rfl⟩ | ⟨_, _, rfl⟩ | ⟨l, A, c, _, rfl, _⟩ <;> simp
    · rcases h2 with h2 | h2 | ⟨l, A, c, h3, h4, h5, h6, f, h7⟩
      · exact .inl h2
      · exact .inr (.inl h2)
      · refine .inr (.inr ⟨l, A, c, h3, h4, h5, h6, f, fun j v hv => ?_⟩)
        obtain ⟨a1, a2, a3⟩ := h7 j v hv
        exact ⟨a1, a2, ih a3 hD (fun k p q => hk k (by omega) (by omega)) (fun i _ => World.cell?_of_block (w := w) (hk A h5 h6))⟩
  | opt sz e ih =>
    intro w w' lo hi b off x h hD hk hc
    obtain ⟨l0, cs, h1, h2⟩ := h
    refine ⟨l0, cs, h1.keep (n := 1) ?_ hc, ?_⟩
    · rcases h2 with ⟨_, rfl⟩ | ⟨v, q, _, rfl, _⟩ <;> simp
    · rcases h2 with h2 | ⟨v, q, h3, h4, h5, h6, h7⟩
      · exact .inl h2
      · exact .inr ⟨v, q, h3, h4, h5, h6, ih h7 hD (fun k p r => hk k (by omega) r) (fun i _ => World.cell?_of_block (w := w) (hk q h5 h6))⟩

/-- More room for the further blocks. -/
theorem Holds.wider {D : Nat} : ∀ {m : M} {w : World} {lo hi lo' hi' b off : Nat} {x : Val}, Holds D m w lo hi b off x → lo' ≤ lo → hi ≤ hi' → Holds D m w lo' hi' b off x := by
  intro m
  induction m with
  | unit => intro w lo hi lo' hi' b off x h h1 h2; exact ⟨h.1, by have := h.2; omega⟩
  | fld o m r ihm ihr =>
    intro w lo hi lo' hi' b off x h h1 h2
    obtain ⟨mid, y, z, hx, a, b⟩ := h
    exact ⟨mid, y, z, hx, ihm a h1 (Nat.le_refl _), ihr b (Nat.le_refl _) h2⟩
  | tags =>
    intro w lo hi lo' hi' b off x h h1 h2
    obtain ⟨l0, cs, a, l, hx, c⟩ := h
    refine ⟨by omega, cs, a, l, hx, ?_⟩
    rcases c with c | ⟨r, c1, c2, c3, c4⟩
    · exact .inl c
    · exact .inr ⟨r, c1, by omega, by omega, c4⟩
  | prim p => intro w lo hi lo' hi' b off x h h1 h2; exact ⟨by have := h.1; omega, h.2⟩
  | str c nl =>
    intro w lo hi lo' hi' b off x h h1 h2
    obtain ⟨l0, cs, a, c⟩ := h
    refine ⟨by omega, cs, a, ?_⟩
    rcases c with c | ⟨c0, c | ⟨s, q, c1, c2, c3, c4, c5⟩⟩
    · exact .inl c
    · exact .inr ⟨c0, .inl c⟩
    · exact .inr ⟨c0, .inr ⟨s, q, c1, c2, by omega, by omega, c5⟩⟩
  | byt c nl => intro w lo hi lo' hi' b off x h h1 h2; exact ⟨by have := h.1; omega, h.2⟩
  | arr c nl nr sz e ih =>
    intro w lo hi lo' hi' b off x h h1 h2
    obtain ⟨l0, cs, a, c⟩ := h
    refine ⟨by omega, cs, a, ?_⟩
    rcases c with c | c | ⟨l, A, c, c1, c2, c3, c4, f, c5⟩
    · exact .inl c
    · exact .inr (.inl c)
    · exact .inr (.inr ⟨l, A, c, c1, c2, by omega, by omega, f, fun j v hv => by obtain ⟨d1, d2, d3⟩ := c5 j v hv; exact ⟨d1, by omega, d3⟩⟩)
  | opt sz e ih =>
    intro w lo hi lo' hi' b off x h h1 h2
    obtain ⟨l0, cs, a, c⟩ := h
    refine ⟨by omega, cs, a, ?_⟩
    rcases c with c | ⟨v, q, c1, c2, c3, c4, c5⟩
    · exact .inl c
    · exact .inr ⟨v, q, c1, c2, by omega, by omega, ih c5 (Nat.le_refl _) h2⟩

/-! ### what a step may change -/

/-- Blocks outside S are as they were. -/
structure Only (S : Nat → Prop) (w w' : World) : Prop where
  os : w'.os = w.os
  tape : w'.tape = w.tape
  output : w'.output = w.output
  size : w.heap.size ≤ w'.heap.size
  block : ∀ k, k < w.heap.size → ¬ S k → w'.heap[k]? = w.heap[k]?

theorem Only.refl (S : Nat → Prop) (w : World) : Only S w w := ⟨rfl, rfl, rfl, Nat.le_refl _, fun _ _ _ => rfl⟩
theorem Only.trans {S : Nat → Prop} {a b c : World} (h : Only S a b) (k : Only S b c) : Only S a c :=
  ⟨k.os.trans h.os, k.tape.trans h.tape, k.output.trans h.output, Nat.le_trans h.size k.size, fun i hi hs => (k.block i (Nat.lt_of_lt_of_le hi h.size) hs).trans (h.block i hi hs)⟩
theorem Only.mono {S T : Nat → Prop} {a b : World} (h : Only S a b) (hs : ∀ k, k < a.heap.size → S k → T k) : Only T a b :=
  ⟨h.os, h.tape, h.output, h.size, fun k hk ht => h.block k hk (fun x => ht (hs k hk x))⟩
theorem Only.below {B : Nat} {a b : World} (h : Only (fun k => B ≤ k) a b) (hB : B ≤ a.heap.size) : Below B a b :=
  ⟨h.os, h.tape, h.output, h.size, fun k hk => h.block k (by omega) (by omega)⟩

/-- A block of cells that may be written. -/
def Blk (w : World) (b : Nat) (n : Nat) : Prop := ∃ cur e, w.heap[b]? = some (.cells cur e (0, 0)) ∧ cur.size = n

theorem Blk.lt {w : World} {b n : Nat} (h : Blk w b n) : b < w.heap.size := by
  obtain ⟨cur, e, h, _⟩ := h
  exact (Array.getElem?_eq_some_iff.1 h).1

/-- Of a block of cells those from lo on and below hi may have changed, no other. -/
def Upd (b lo hi : Nat) (w w' : World) : Prop :=
  ∀ cur e, w.heap[b]? = some (.cells cur e (0, 0)) → ∃ cur' : Array Value, w'.heap[b]? = some (.cells cur' e (0, 0)) ∧ cur'.size = cur.size ∧ ∀ j, j < lo ∨ hi ≤ j → cur'[j]? = cur[j]?

theorem Upd.same {b lo hi : Nat} {w w' : World} (h : w'.heap[b]? = w.heap[b]?) : Upd b lo hi w w' :=
  fun cur e hc => ⟨cur, h.trans hc, rfl, fun _ _ => rfl⟩
theorem Upd.trans {b lo hi : Nat} {u v w : World} (h : Upd b lo hi u v) (k : Upd b lo hi v w) : Upd b lo hi u w := by
  intro cur e hc
  obtain ⟨c1, h1, s1, k1⟩ := h cur e hc
  obtain ⟨c2, h2, s2, k2⟩ := k c1 e h1
  exact ⟨c2, h2, s2.trans s1, fun j hj => (k2 j hj).trans (k1 j hj)⟩
theorem Upd.mono {b lo hi lo' hi' : Nat} {w w' : World} (h : Upd b lo hi w w') (h1 : lo' ≤ lo) (h2 : hi ≤ hi') : Upd b lo' hi' w w' := by
  intro cur e hc
  obtain ⟨c1, h3, s1, k1⟩ := h cur e hc
  exact ⟨c1, h3, s1, fun j hj => k1 j (by omega)⟩
theorem Upd.blk {b lo hi n : Nat} {w w' : World} (h : Upd b lo hi w w') (hb : Blk w b n) : Blk w' b n := by
  obtain ⟨cur, e, h1, h2⟩ := hb
  obtain ⟨c, h3, h4, _⟩ := h cur e h1
  exact ⟨c, e, h3, h4.trans h2⟩
theorem Upd.cell {b lo hi n j : Nat} {w w' : World} (h : Upd b lo hi w w') (hb : Blk w b n) (hj : j < lo ∨ hi ≤ j) : w'.cell? ⟨b, j, none⟩ = w.cell? ⟨b, j, none⟩ := by
  obtain ⟨cur, e, h1, h2⟩ := hb
  obtain ⟨c, h3, h4, h5⟩ := h cur e h1
  simp only [World.cell?, h1, h3]
  simpa using h5 j hj

theorem Blk.cell {w : World} {b n j : Nat} (h : Blk w b n) (hj : j < n) : ∃ v, w.cell? ⟨b, j, none⟩ = some v := by
  obtain ⟨cur, e, h1, rfl⟩ := h
  simp [World.cell?, h1, Array.getElem?_eq_getElem hj]
theorem Blk.free {w : World} {b n j : Nat} (h : Blk w b n) : w.frozen? ⟨b, j, none⟩ = false := by
  obtain ⟨cur, e, h1, h2⟩ := h
  simp [World.frozen?, h1]
theorem Blk.keep {w w' : World} {b n : Nat} (h : Blk w b n) (hk : w'.heap[b]? = w.heap[b]?) : Blk w' b n := by
  obtain ⟨cur, e, h1, h2⟩ := h
  exact ⟨cur, e, hk.trans h1, h2⟩

/-- The reader in the block rb: what is left of its octets in the block D, and whether it has failed. -/
def Rd (D rb : Nat) (w : World) (nn : Bool) (bs : List UInt8) (bad : Bool) : Prop :=
  ∃ sv e, w.heap[rb]? = some (.cells #[sv, .bool bad] e (0, 0)) ∧ Sp w D nn sv bs ∧ D < rb ∧ (bad = true → nn = false)

theorem Rd.lt {D rb : Nat} {w : World} {nn : Bool} {bs : List UInt8} {bad : Bool} (h : Rd D rb w nn bs bad) : rb < w.heap.size := by
  obtain ⟨sv, e, h, _⟩ := h
  exact (Array.getElem?_eq_some_iff.1 h).1
theorem Rd.keep {D rb : Nat} {w w' : World} {nn : Bool} {bs : List UInt8} {bad : Bool} (h : Rd D rb w nn bs bad) (hD : w'.heap[D]? = w.heap[D]?) (hr : w'.heap[rb]? = w.heap[rb]?) : Rd D rb w' nn bs bad := by
  obtain ⟨sv, e, h1, h2, h3⟩ := h
  exact ⟨sv, e, hr.trans h1, h2.keep hD, h3⟩
end Go.Proofs.YtfimokbgggimmaaDoor.Kf
