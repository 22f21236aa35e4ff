/- The reference's own data in memory: fields and trees; octets that came in or are the call's own; a source behind what is there. -/
import Derived.Test.YtpefipjgcpchaaaGreatDoorRPA
import Derived.Test.YtpefipjgcpchaaaGreatDoorRKbG
import Derived.Test.YtpefipjgcpchaaaGreatDoorRKbE
import Derived.Laws.AppendOwnNone
import Derived.Laws.OwnMore
namespace Go.Proofs.YtpefipjgcpchaaaGreatDoorR.Kf
set_option linter.unusedVariables false
set_option linter.unusedSimpArgs false
open Go Go.RowKit

/-- Cells from an address on. -/
def CellsA (w : World) (a : Addr) (cs : List Value) : Prop := ∀ j v, cs[j]? = some v → w.cell? (a.add j) = some v
theorem add_block (a : Addr) (n : Nat) : (a.add n).block = a.block := by unfold Addr.add; split <;> rfl
theorem add_add (a : Addr) (i j : Nat) : (a.add i).add j = a.add (i + j) := by
  unfold Addr.add
  by_cases hi : i = 0 <;> by_cases hj : j = 0 <;> simp [hi, hj, Nat.add_assoc]

theorem cell_kept {w w' : World} {a : Addr} (h : w'.heap[a.block]? = w.heap[a.block]?) : w'.cell? a = w.cell? a := World.cell?_of_block (w := w) h

/-- What a call leaves of the blocks below B. -/
def Kept (B : Nat) (w w' : World) : Prop := ∀ k, k < B → w'.heap[k]? = w.heap[k]?
theorem Kept.refl (B : Nat) (w : World) : Kept B w w := fun _ _ => rfl
theorem Kept.trans {B : Nat} {a b c : World} (h : Kept B a b) (k : Kept B b c) : Kept B a c := fun i hi => (k i hi).trans (h i hi)
theorem Only.kept {S : Nat → Prop} {w w' : World} (h : Only S w w') {B : Nat} (hB : B ≤ w.heap.size) (hS : ∀ k, k < B → ¬ S k) : Kept B w w' := fun k hk => h.block k (by omega) (hS k hk)
theorem CellsA.keep {w w' : World} {B : Nat} {a : Addr} {cs : List Value} (h : CellsA w a cs) (hk : Kept B w w') (ha : a.block < B) : CellsA w' a cs :=
  fun j v hv => (cell_kept (a := a.add j) (by rw [add_block]; exact hk _ ha)).trans (h j v hv)

/-- Octets in a slice, below block B. -/
def Oc (w : World) (B : Nat) (v : Value) (s : List UInt8) : Prop :=
  (v = .slice none 0 0 ∧ s = []) ∨ ∃ a c, v = .slice (some a) s.length c ∧ s.length ≤ c ∧ ∀ j b, s[j]? = some b → a.block < B ∧ w.cell? (a.add j) = some (u8v b)
theorem Oc.keep {w w' : World} {B : Nat} {v : Value} {s : List UInt8} (h : Oc w B v s) (hk : Kept B w w') : Oc w' B v s := by
  rcases h with h | ⟨a, c, h1, h2, h3⟩
  · exact .inl h
  · exact .inr ⟨a, c, h1, h2, fun j b hb => ⟨(h3 j b hb).1, (cell_kept (a := a.add j) (by rw [add_block]; exact hk _ (h3 j b hb).1)).trans (h3 j b hb).2⟩⟩
theorem Oc.more {w : World} {B B' : Nat} {v : Value} {s : List UInt8} (h : Oc w B v s) (hB : B ≤ B') : Oc w B' v s := by
  rcases h with h | ⟨a, c, h1, h2, h3⟩
  · exact .inl h
  · exact .inr ⟨a, c, h1, h2, fun j b hb => ⟨by have := (h3 j b hb).1; omega, (h3 j b hb).2⟩⟩
theorem Oc.nil (w : World) (B : Nat) : Oc w B (.slice none 0 0) [] := .inl ⟨rfl, rfl⟩
theorem Oc.sl {w : World} {B : Nat} {v : Value} {s : List UInt8} (h : Oc w B v s) : ∃ A c, v = .slice A s.length c ∧ s.length ≤ c := by
  rcases h with ⟨rfl, rfl⟩ | ⟨a, c, rfl, h, _⟩
  · exact ⟨none, 0, rfl, Nat.le_refl _⟩
  · exact ⟨some a, c, rfl, h⟩
theorem Own.oc {U base : Nat} {w : World} {v : Value} {s : List UInt8} (h : Own U base w v s) : Oc w w.heap.size v s := by
  have hlt := World.ownsRow.lt h
  have hc : ∀ g, v.ownBlock = some g → ∀ j u, (s.map u8v)[j]? = some u → w.cell? ((⟨g, 0, none⟩ : Addr).add j) = some u := fun g hg => World.ownsRow.cells h hg
  rcases h.2 with ⟨rfl, h0⟩ | ⟨g, cap, cur, rfl, _, hg, hn, _⟩
  · exact .inl ⟨rfl, List.eq_nil_of_length_eq_zero h0⟩
  · refine .inr ⟨_, cap, rfl, hn, fun j b hb => ⟨(hlt g rfl).2, ?_⟩⟩
    exact hc g rfl j _ (by rw [List.getElem?_map, hb]; rfl)

/-- A slice of things of sz cells each. -/
def Sls (w : World) (B sz : Nat) (v : Value) (n : Nat) (f : Nat → List Value) : Prop :=
  (v = .slice none 0 0 ∧ n = 0) ∨ ∃ a c, v = .slice (some a) n c ∧ n ≤ c ∧ ∀ j, j < n → a.block < B ∧ (f j).length = sz ∧ CellsA w (a.add (j * sz)) (f j)
theorem Sls.keep {w w' : World} {B sz n : Nat} {v : Value} {f : Nat → List Value} (h : Sls w B sz v n f) (hk : Kept B w w') : Sls w' B sz v n f := by
  rcases h with h | ⟨a, c, h1, h2, h3⟩
  · exact .inl h
  · exact .inr ⟨a, c, h1, h2, fun j hj => ⟨(h3 j hj).1, (h3 j hj).2.1, (h3 j hj).2.2.keep hk (by rw [add_block]; exact (h3 j hj).1)⟩⟩
theorem Sls.more {w : World} {B B' sz n : Nat} {v : Value} {f : Nat → List Value} (h : Sls w B sz v n f) (hB : B ≤ B') : Sls w B' sz v n f := by
  rcases h with h | ⟨a, c, h1, h2, h3⟩
  · exact .inl h
  · exact .inr ⟨a, c, h1, h2, fun j hj => ⟨by have := (h3 j hj).1; omega, (h3 j hj).2⟩⟩
theorem Sls.sl {w : World} {B sz n : Nat} {v : Value} {f : Nat → List Value} (h : Sls w B sz v n f) : ∃ A c, v = .slice A n c ∧ n ≤ c := by
  rcases h with ⟨rfl, rfl⟩ | ⟨a, c, rfl, h, _⟩
  · exact ⟨none, 0, rfl, Nat.le_refl _⟩
  · exact ⟨some a, c, rfl, h⟩
theorem Sls.at_ {w : World} {B sz n j : Nat} {v : Value} {f : Nat → List Value} (h : Sls w B sz v n f) (hj : j < n) : ∃ a c, v = .slice (some a) n c ∧ n ≤ c ∧ a.block < B ∧ (f j).length = sz ∧ CellsA w (a.add (j * sz)) (f j) := by
  rcases h with ⟨_, h⟩ | ⟨a, c, h1, h2, h3⟩
  · omega
  · exact ⟨a, c, h1, h2, h3 j hj⟩
theorem spot_none {w : World} {a : Addr} {v : Value} (h : w.cell? a = some v) : a.spot = none := by
  unfold World.cell? at h
  split at h
  · split at h
    · cases h
    · rename_i h2; simpa using h2
  · cases h
/-- .. with the address as it is written. -/
theorem Sls.lit {w : World} {B sz n j : Nat} {v : Value} {f : Nat → List Value} (h : Sls w B sz v n f) (hz : 0 < sz) (hj : j < n) :
    ∃ b o c, v = .slice (some ⟨b, o, none⟩) n c ∧ n ≤ c ∧ b < B ∧ (f j).length = sz ∧ ∀ k x, (f j)[k]? = some x → w.cell? ⟨b, o + j * sz + k, none⟩ = some x := by
  rcases h with ⟨_, h⟩ | ⟨a, c, h1, h2, h3⟩
  · omega
  · obtain ⟨k1, k2, k3⟩ := h3 0 (by omega)
    have hs : a.spot = none := by
      have := k3 0 ((f 0)[0]) (List.getElem?_eq_getElem (by omega))
      simp [Addr.add] at this
      exact spot_none this
    obtain ⟨b, o, sp⟩ := a
    simp only at hs
    subst hs
    obtain ⟨q1, q2, q3⟩ := h3 j hj
    refine ⟨b, o, c, h1, h2, q1, q2, fun k x hx => ?_⟩
    have := q3 k x hx
    rwa [Addr.add_lit, Addr.add_lit] at this

/-- A tree in its five cells. -/
inductive TrC (w : World) (B : Nat) : Tr → List Value → Prop
  | mk {n : Int} {s : List UInt8} {nl : Bool} {l : List Tr} {u : List (Nat × List UInt8)} {vs vl vu : Value} (fl fu : Nat → List Value) (h0 : -9223372036854775808 ≤ n) (h1 : n < 9223372036854775808) (hs : Oc w B vs s)
      (hl : Sls w B 5 vl l.length fl) (hL : ∀ j t, l[j]? = some t → TrC w B t (fl j)) (hu : Sls w B 2 vu u.length fu)
      (hU : ∀ j x, u[j]? = some x → x.1 < 4294967296 ∧ ∃ vv, fu j = [.int .u32 x.1, vv] ∧ Oc w B vv x.2) : TrC w B (.mk n s nl l u) [.int .i64 n, vs, .bool nl, vl, vu]
theorem TrC.keep {w w' : World} {B : Nat} (hk : Kept B w w') : ∀ {t : Tr} {cs : List Value}, TrC w B t cs → TrC w' B t cs := by
  intro t cs h
  induction h with
  | mk fl fu h0 h1 hs hl hL hu hU ih => exact .mk fl fu h0 h1 (hs.keep hk) (hl.keep hk) ih (hu.keep hk) (fun j x hx => let ⟨a, vv, b, c⟩ := hU j x hx; ⟨a, vv, b, c.keep hk⟩)
theorem TrC.more {w : World} {B B' : Nat} (hB : B ≤ B') : ∀ {t : Tr} {cs : List Value}, TrC w B t cs → TrC w B' t cs := by
  intro t cs h
  induction h with
  | mk fl fu h0 h1 hs hl hL hu hU ih => exact .mk fl fu h0 h1 (hs.more hB) (hl.more hB) ih (hu.more hB) (fun j x hx => let ⟨a, vv, b, c⟩ := hU j x hx; ⟨a, vv, b, c.more hB⟩)
theorem TrC.ok {w : World} {B : Nat} : ∀ {t : Tr} {cs : List Value}, TrC w B t cs → TrOk t := by
  intro t cs h
  induction h with
  | mk fl fu h0 h1 hs hl hL hu hU ih =>
    refine .mk (fun x hx => ?_) (fun t ht => ?_)
    · obtain ⟨j, hj, rfl⟩ := List.getElem_of_mem hx
      exact (hU j _ (List.getElem?_eq_getElem hj)).1
    · obtain ⟨j, hj, rfl⟩ := List.getElem_of_mem ht
      exact ih j _ (List.getElem?_eq_getElem hj)
theorem TrC.len {w : World} {B : Nat} {t : Tr} {cs : List Value} (h : TrC w B t cs) : cs.length = 5 := by cases h; rfl
theorem TrC.form {w : World} {B : Nat} {t : Tr} {cs : List Value} (h : TrC w B t cs) : ∃ n A1 n1 c1 b A2 n2 c2 A3 n3 c3, cs = [.int .i64 n, .slice A1 n1 c1, .bool b, .slice A2 n2 c2, .slice A3 n3 c3] := by
  cases h with
  | mk fl fu h0 h1 hs hl hL hu hU =>
    obtain ⟨A1, c1, rfl, _⟩ := hs.sl
    obtain ⟨A2, c2, rfl, _⟩ := hl.sl
    obtain ⟨A3, c3, rfl, _⟩ := hu.sl
    exact ⟨_, A1, _, c1, _, A2, _, c2, A3, _, c3, rfl⟩
/-- The empty tree. -/
theorem TrC.zero (w : World) (B : Nat) : TrC w B tr0 [.int .i64 0, .slice none 0 0, .bool false, .slice none 0 0, .slice none 0 0] :=
  .mk (fun _ => []) (fun _ => []) (by decide) (by decide) (Oc.nil _ _) (.inl ⟨rfl, rfl⟩) (by simp) (.inl ⟨rfl, rfl⟩) (by simp)

/-- A field in its eight cells. -/
inductive FldC (w : World) (B : Nat) : Fld → List Value → Prop
  | mk {kind of : Nat} {fr to nu tag df : Int} {sub : List Fld} {vs : Value} (f : Nat → List Value) (hs : Sls w B 8 vs sub.length f) (hS : ∀ j x, sub[j]? = some x → FldC w B x (f j)) :
      FldC w B (.mk kind fr to nu tag df of sub) [.int .i64 kind, .int .i64 fr, .int .i64 to, .int .i64 nu, .int .i64 tag, .int .i64 df, .int .i64 of, vs]
theorem FldC.keep {w w' : World} {B : Nat} (hk : Kept B w w') : ∀ {x : Fld} {cs : List Value}, FldC w B x cs → FldC w' B x cs := by
  intro x cs h
  induction h with
  | mk f hs hS ih => exact .mk f (hs.keep hk) ih
theorem FldC.more {w : World} {B B' : Nat} (hB : B ≤ B') : ∀ {x : Fld} {cs : List Value}, FldC w B x cs → FldC w B' x cs := by
  intro x cs h
  induction h with
  | mk f hs hS ih => exact .mk f (hs.more hB) ih
theorem FldC.len {w : World} {B : Nat} {x : Fld} {cs : List Value} (h : FldC w B x cs) : cs.length = 8 := by cases h; rfl

theorem FldC.form {w : World} {B : Nat} {x : Fld} {cs : List Value} (h : FldC w B x cs) : ∃ A n c, cs = [.int .i64 x.kind, .int .i64 x.fr, .int .i64 x.to, .int .i64 x.nu, .int .i64 x.tag, .int .i64 x.df, .int .i64 x.of, .slice A n c] := by
  cases h with
  | mk f hs hS =>
    obtain ⟨A, c, rfl, _⟩ := hs.sl
    exact ⟨A, _, c, rfl⟩

/-- Fields in a slice. -/
def FldsC (w : World) (B : Nat) (fs : List Fld) (v : Value) : Prop := ∃ f, Sls w B 8 v fs.length f ∧ ∀ j x, fs[j]? = some x → FldC w B x (f j)
theorem FldsC.keep {w w' : World} {B : Nat} {fs : List Fld} {v : Value} (h : FldsC w B fs v) (hk : Kept B w w') : FldsC w' B fs v := let ⟨f, a, b⟩ := h; ⟨f, a.keep hk, fun j x hx => (b j x hx).keep hk⟩
theorem FldsC.more {w : World} {B B' : Nat} {fs : List Fld} {v : Value} (h : FldsC w B fs v) (hB : B ≤ B') : FldsC w B' fs v := let ⟨f, a, b⟩ := h; ⟨f, a.more hB, fun j x hx => (b j x hx).more hB⟩
/-- Trees in a slice. -/
def TrsC (w : World) (B : Nat) (l : List Tr) (v : Value) : Prop := ∃ f, Sls w B 5 v l.length f ∧ ∀ j t, l[j]? = some t → TrC w B t (f j)
theorem TrsC.keep {w w' : World} {B : Nat} {l : List Tr} {v : Value} (h : TrsC w B l v) (hk : Kept B w w') : TrsC w' B l v := let ⟨f, a, b⟩ := h; ⟨f, a.keep hk, fun j x hx => (b j x hx).keep hk⟩
/-- Tags in a slice. -/
def TgsC (w : World) (B : Nat) (u : List (Nat × List UInt8)) (v : Value) : Prop := ∃ f, Sls w B 2 v u.length f ∧ ∀ j x, u[j]? = some x → x.1 < 4294967296 ∧ ∃ vv, f j = [.int .u32 x.1, vv] ∧ Oc w B vv x.2

theorem Only.ge {w w' : World} (h : Only (fun _ => False) w w') (S : Nat → Prop) : Only S w w' := h.mono fun _ _ h => h.elim
theorem Only.kept0 {w w' : World} (h : Only (fun _ => False) w w') {B : Nat} (hB : B ≤ w.heap.size) : Kept B w w' := h.kept hB fun _ _ h => h
/-- What a call writes of its own, seen from where the caller began. -/
theorem Only.own {w0 w w' : World} {B : Nat} (h0 : Only (fun _ => False) w0 w) (h : Only (fun j => B ≤ j) w w') (hB : w0.heap.size ≤ B) : Only (fun _ => False) w0 w' :=
  ⟨h.os.trans h0.os, h.tape.trans h0.tape, h.output.trans h0.output, Nat.le_trans h0.size h.size, fun k hk _ => (h.block k (Nat.lt_of_lt_of_le hk h0.size) (by omega)).trans (h0.block k hk id)⟩

/-- What a function of the reference comes to that hands back octets. -/
def SpP (U : Nat) (w : World) (out : List UInt8) (e : Ending) (w' : World) : Prop := ∃ v, e = .returned v ∧ Own U w.heap.size w' v out ∧ Only (fun _ => False) w w'
theorem Own.lower {U base base' : Nat} {w : World} {v : Value} {s : List UInt8} (h : Own U base w v s) (hb : base' ≤ base) : Own U base' w v s := by
  refine ⟨h.1, ?_⟩
  rcases h.2 with h | ⟨g, cap, cur, h1, h2, h3⟩
  · exact .inl h
  · exact .inr ⟨g, cap, cur, h1, by omega, h3⟩

/-- Octets, wherever they are, are written behind what is there. -/
theorem oper_app_oc {P : Program} {o : Oper} {a : Act} {K : Act → World → Prop} {Q : Exit → Act → World → Prop} {w : World} (sl x : Operand) (t : TypeId)
    (ho : o.op = .call { callee := .builtin .append, args := #[sl, x], argTypes := #[t, t] }) {base U : Nat} {i : TypeInfo} (ht : P.underlying t = some (.slice U)) (hi : P.info? U = some i) (hz : i.zero = some (.int .u8 0))
    (hsize : i.size = 1) (hby : i.bytes = 1) {v u : Value} {ds s : List UInt8} {B : Nat} (hs : a.eval sl = v) (hown : Own U base w v ds) (hx : a.eval x = u) (hu : Oc w B u s) (hb : base ≤ w.heap.size) (hl : ds.length + s.length ≤ lim2)
    (h : ∀ v' w', Own U base w' v' (ds ++ s) → Only (fun j => base ≤ j) w w' → K (a.put o.dst v') w') : o.wp P a w K Q := by
  unfold lim2 at hl
  rcases hu with ⟨rfl, rfl⟩ | ⟨p, c, rfl, hc, hcell⟩
  · have hrun := run_append_owned_none (P := P) (w := w) base t o.type U i 1 ht hi v ds.length (ds.map u8v) hown
    unfold Oper.wp
    simp [execOp, ho, resolve, invoke, builtin, hs, hx, hrun, Result.andThen]
    exact h v w (by simpa using hown) (Only.refl _ _)
  · refine wp_append_own w sl x t ho base U i (.int .u8 0) 1 1 ht hi hz hsize hby rfl (by decide) v ds.length (ds.map u8v) hs hown p s.length c (s.map u8v) hx (by simp) ?_ ?_ (by unfold maxLen; omega) (by omega) hb ?_
    · intro j u hj
      rw [List.getElem?_map] at hj
      cases hb : s[j]? with
      | none => rw [hb] at hj; cases hj
      | some b => rw [hb] at hj; simp at hj; rw [← hj]; exact (hcell j b hb).2
    · intro u hu
      simp only [List.mem_map] at hu
      obtain ⟨b, _, rfl⟩ := hu
      rfl
    · intro v' w' hown' hgrow _
      refine h v' w' ?_ (Only.grown hgrow fun g hg => (World.ownsRow.lt hown g hg).1)
      unfold Own
      simpa using hown'
theorem wp_app_oc {P : Program} {ops : Array Oper} {rest : List Oper} {o : Oper} {a : Act} {Q : Exit → Act → World → Prop} {w : World} (hgd : o.guard = none) (sl x : Operand) (t : TypeId)
    (ho : o.op = .call { callee := .builtin .append, args := #[sl, x], argTypes := #[t, t] }) {base U : Nat} {i : TypeInfo} (ht : P.underlying t = some (.slice U)) (hi : P.info? U = some i) (hz : i.zero = some (.int .u8 0))
    (hsize : i.size = 1) (hby : i.bytes = 1) {v u : Value} {ds s : List UInt8} {B : Nat} (hs : a.eval sl = v) (hown : Own U base w v ds) (hx : a.eval x = u) (hu : Oc w B u s) (hb : base ≤ w.heap.size) (hl : ds.length + s.length ≤ lim2)
    (h : ∀ v' w', Own U base w' v' (ds ++ s) → Only (fun j => base ≤ j) w w' → wpList P ops Q rest (a.put o.dst v') w') : wpList P ops Q (o :: rest) a w :=
  wpList_plain hgd fun K hK => oper_app_oc sl x t ho ht hi hz hsize hby hs hown hx hu hb hl fun v' w' h1 h2 => hK _ _ (h v' w' h1 h2)
/-- The same within a region that draws; and which blocks have changed. -/
theorem oper_app_ocg {P : Program} {o : Oper} {a : Act} {K : Act → World → Prop} {Q : Exit → Act → World → Prop} {w : World} (sl x : Operand) (t : TypeId)
    (ho : o.op = .call { callee := .builtin .append, args := #[sl, x], argTypes := #[t, t] }) {base U : Nat} {i : TypeInfo} (ht : P.underlying t = some (.slice U)) (hi : P.info? U = some i) (hz : i.zero = some (.int .u8 0))
    (hsize : i.size = 1) (hby : i.bytes = 1) {v u : Value} {ds s : List UInt8} {B : Nat} (hs : a.eval sl = v) (hown : Own U base w v ds) (hx : a.eval x = u) (hu : Oc w B u s) (hb : base ≤ w.heap.size) (hl : ds.length + s.length ≤ lim2)
    (h : ∀ v' w', Own U base w' v' (ds ++ s) → Only (fun j => base ≤ j) w w' → w.grownBy w' v.ownBlock → K (a.put o.dst v') w') : o.wp P a w K Q := by
  unfold lim2 at hl
  rcases hu with ⟨rfl, rfl⟩ | ⟨p, c, rfl, hc, hcell⟩
  · have hrun := run_append_owned_none (P := P) (w := w) base t o.type U i 1 ht hi v ds.length (ds.map u8v) hown
    unfold Oper.wp
    simp [execOp, ho, resolve, invoke, builtin, hs, hx, hrun, Result.andThen]
    exact h v w (by simpa using hown) (Only.refl _ _) (World.grownBy.refl w _)
  · refine wp_append_own w sl x t ho base U i (.int .u8 0) 1 1 ht hi hz hsize hby rfl (by decide) v ds.length (ds.map u8v) hs hown p s.length c (s.map u8v) hx (by simp) ?_ ?_ (by unfold maxLen; omega) (by omega) hb ?_
    · intro j u hj
      rw [List.getElem?_map] at hj
      cases hb : s[j]? with
      | none => rw [hb] at hj; cases hj
      | some b => rw [hb] at hj; simp at hj; rw [← hj]; exact (hcell j b hb).2
    · intro u hu
      simp only [List.mem_map] at hu
      obtain ⟨b, _, rfl⟩ := hu
      rfl
    · intro v' w' hown' hgrow _
      refine h v' w' ?_ (Only.grown hgrow fun g hg => (World.ownsRow.lt hown g hg).1) hgrow
      unfold Own
      simpa using hown'
theorem step_app_ocg {P : Program} {ops : Array Oper} {o : Oper} {a : Act} {K : Act → World → Prop} {Q : Exit → Act → World → Prop} {w : World} {E : Prop} (hgd : o.guard = none) (sl x : Operand) (t : TypeId)
    (ho : o.op = .call { callee := .builtin .append, args := #[sl, x], argTypes := #[t, t] }) {base U : Nat} {i : TypeInfo} (ht : P.underlying t = some (.slice U)) (hi : P.info? U = some i) (hz : i.zero = some (.int .u8 0))
    (hsize : i.size = 1) (hby : i.bytes = 1) {v u : Value} {ds s : List UInt8} {B : Nat} (hs : a.eval sl = v) (hown : Own U base w v ds) (hx : a.eval x = u) (hu : Oc w B u s) (hb : base ≤ w.heap.size) (hl : ds.length + s.length ≤ lim2)
    (h : ∀ v' w', Own U base w' v' (ds ++ s) → Only (fun j => base ≤ j) w w' → w.grownBy w' v.ownBlock → K (a.put o.dst v') w') : if Region.wanted o (yielded ops a.tmps) = true then Oper.wp P o a w K Q else E := by
  have hw : Region.wanted o (yielded ops a.tmps) = true := by simp [Region.wanted, hgd]
  rw [if_pos hw]
  exact oper_app_ocg sl x t ho ht hi hz hsize hby hs hown hx hu hb hl h
/-- The same within a region that draws. -/
theorem step_app_oc {P : Program} {ops : Array Oper} {o : Oper} {a : Act} {K : Act → World → Prop} {Q : Exit → Act → World → Prop} {w : World} {E : Prop} (hgd : o.guard = none) (sl x : Operand) (t : TypeId)
    (ho : o.op = .call { callee := .builtin .append, args := #[sl, x], argTypes := #[t, t] }) {base U : Nat} {i : TypeInfo} (ht : P.underlying t = some (.slice U)) (hi : P.info? U = some i) (hz : i.zero = some (.int .u8 0))
    (hsize : i.size = 1) (hby : i.bytes = 1) {v u : Value} {ds s : List UInt8} {B : Nat} (hs : a.eval sl = v) (hown : Own U base w v ds) (hx : a.eval x = u) (hu : Oc w B u s) (hb : base ≤ w.heap.size) (hl : ds.length + s.length ≤ lim2)
    (h : ∀ v' w', Own U base w' v' (ds ++ s) → Only (fun j => base ≤ j) w w' → K (a.put o.dst v') w') : if Region.wanted o (yielded ops a.tmps) = true then Oper.wp P o a w K Q else E := by
  have hw : Region.wanted o (yielded ops a.tmps) = true := by simp [Region.wanted, hgd]
  rw [if_pos hw]
  exact oper_app_oc sl x t ho ht hi hz hsize hby hs hown hx hu hb hl h
end Go.Proofs.YtpefipjgcpchaaaGreatDoorR.Kf
