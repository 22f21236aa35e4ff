/- What the functions that write come to: the same octets and more, in a slice of the call's own. -/
import Derived.Test.YtpefipjgcpchaaaGreatDoorRKbA
import Derived.Test.YtpefipjgcpchaaaGreatDoorRPD
import Derived.Laws.IdiomStrings
import Derived.Lib.AppendStr
import Derived.Laws.AppendOwnNone
namespace Go.Proofs.YtpefipjgcpchaaaGreatDoorR.Kf
set_option linter.unusedVariables false
set_option linter.unusedSimpArgs false
open Go Go.RowKit

def AppP (U base : Nat) (w : World) (out : List UInt8) (e : Ending) (w' : World) : Prop := ∃ v, e = .returned v ∧ (Own U base w' v out ∧ Only (fun j => base ≤ j) w w')
/-- The function F writes a number in k octets. -/
def AppN (P : Program) (U F : Nat) (mk : Int → Value) (lo hi : Int) (k : Nat) : Prop := Plain P F ∧ ∀ (base : Nat) (w : World) (dst : Value) (ds : List UInt8) (n : Int), Own U base w dst ds → lo ≤ n → n < hi → base ≤ w.heap.size → ds.length + k ≤ lim2 →
  Calls P F #[dst, mk n] w (AppP U base w (ds ++ beEnc k n))

/-- .. and only the octets' own block is written. -/
def AppPx (U base : Nat) (w : World) (dst : Value) (out : List UInt8) (e : Ending) (w' : World) : Prop := ∃ v, e = .returned v ∧ (Own U base w' v out ∧ Only (fun j => dst.ownBlock = some j) w w')
theorem AppPx.p {U base : Nat} {w : World} {dst : Value} {ds out : List UInt8} {e : Ending} {w' : World} (h : AppPx U base w dst out e w') (hown : Own U base w dst ds) : AppP U base w out e w' :=
  let ⟨v, h1, h2, h3⟩ := h; ⟨v, h1, h2, h3.mono fun j _ hj => (World.ownsRow.lt hown j hj).1⟩
theorem u8v_byteOf (z : Int) : u8v (byteOf z) = .int .u8 (z % 256) := by unfold u8v; rw [byteOf_toNat]
/-- A text's octets are written behind what is there. -/
theorem wp_app_str {P : Program} {ops : Array Oper} {rest : List Oper} {o : Oper} {a : Act} {Q : Exit → Act → World → Prop} {w : World} (hgd : o.guard = none) (sl x : Operand) (t u : TypeId)
    (ho : o.op = .call { callee := .builtin .append, args := #[sl, x], argTypes := #[t, u] }) {base U : Nat} {i : TypeInfo} (ht : P.underlying t = some (.slice U)) (hu : P.underlying u = some .string) (hi : P.info? U = some i) (hz : i.zero = some (.int .u8 0))
    (hsize : i.size = 1) (hby : i.bytes = 1) {v : Value} {ds s : List UInt8} (hs : a.eval sl = v) (hown : Own U base w v ds) (hx : a.eval x = .string ⟨s.toArray⟩) (hb : base ≤ w.heap.size) (hl : ds.length + s.length ≤ lim2)
    (h : ∀ v' w', Own U base w' v' (ds ++ s) → Only (fun j => base ≤ j) w w' → wpList P ops Q rest (a.put o.dst v') w') : wpList P ops Q (o :: rest) a w := by
  unfold lim2 at hl
  have hsz : (⟨s.toArray⟩ : ByteArray).size = s.length := rfl
  refine Lib.wpList_append_own_string w hgd sl x t u ho base U i ht hu hi hz hsize hby v ds.length (ds.map u8v) hs hown ⟨s.toArray⟩ hx (by rw [hsz]; unfold maxLen; omega) (by rw [hsz]; omega) hb ?_
  intro v' w' hown' hgrow _
  refine h v' w' ?_ (Only.grown hgrow fun g hg => (World.ownsRow.lt hown g hg).1)
  unfold Own
  rw [hsz] at hown'
  simp only [List.length_append, List.map_append]
  exact hown'
theorem AppN.c {P : Program} {U F : Nat} {p : Prim} (hp : p ≠ .uuid) (h : AppN P U F (primV p) p.lo p.hi p.n) : AppC P U F (.prim p) := by
  refine ⟨h.1, fun D base w dst ds lo hi cs x hown hx hw hdb hb hl => ?_⟩
  rcases hx with ⟨_, n, rfl, h0, h1, rfl⟩ | ⟨h2, _⟩
  · have e : (enc (RK.prim p).m.w (.int n)).length = p.n := by simp only [RK.m, M.w, enc, beEnc_length]
    have := h.2 base w dst ds n hown h0 h1 hb (by omega)
    cases p <;> first | exact absurd rfl hp | exact this
  · exact absurd h2 hp
/-- Octets that came in are written behind what is there. -/
theorem wp_app_sp {P : Program} {ops : Array Oper} {rest : List Oper} {o : Oper} {a : Act} {Q : Exit → Act → World → Prop} {w : World} (hgd : o.guard = none) (sl x : Operand) (t : TypeId)
    (ho : o.op = .call { callee := .builtin .append, args := #[sl, x], argTypes := #[t, t] }) {base U : Nat} {i : TypeInfo} (ht : P.underlying t = some (.slice U)) (hi : P.info? U = some i) (hz : i.zero = some (.int .u8 0))
    (hsize : i.size = 1) (hby : i.bytes = 1) {v : Value} {ds s : List UInt8} {D p c : Nat} (hs : a.eval sl = v) (hown : Own U base w v ds) (hx : a.eval x = .slice (some ⟨D, p, none⟩) s.length c)
    (hcell : ∀ j b, s[j]? = some b → w.cell? ⟨D, p + j, none⟩ = some (u8v b)) (hb : base ≤ w.heap.size) (hl : ds.length + s.length ≤ lim2)
    (h : ∀ v' w', Own U base w' v' (ds ++ s) → Only (fun j => base ≤ j) w w' → wpList P ops Q rest (a.put o.dst v') w') : wpList P ops Q (o :: rest) a w := by
  unfold lim2 at hl
  refine wpList_append_own _ hgd sl x t ho base U i (.int .u8 0) 1 1 ht hi hz hsize hby rfl (by decide) v ds.length (ds.map u8v) hs hown ⟨D, p, none⟩ s.length c (s.map u8v) hx (by simp) ?_ ?_ (by unfold maxLen; omega) (by omega) hb ?_
  · intro j u hj
    have e : (⟨D, p, none⟩ : Addr).add j = ⟨D, p + j, none⟩ := by simp [Addr.add]
    rw [e]
    rw [List.getElem?_map] at hj
    cases hb : s[j]? with
    | none => rw [hb] at hj; cases hj
    | some b => rw [hb] at hj; simp at hj; rw [← hj]; exact hcell j b hb
  · intro u hu
    simp only [List.mem_map] at hu
    obtain ⟨b, _, rfl⟩ := hu
    rfl
  · intro v' w' hown' hgrow _
    refine h v' w' ?_ (Only.grown hgrow fun g hg => (World.ownsRow.lt hown g hg).1)
    unfold Own
    simpa using hown'
theorem wp_app_spx {P : Program} {ops : Array Oper} {rest : List Oper} {o : Oper} {a : Act} {Q : Exit → Act → World → Prop} {w : World} (hgd : o.guard = none) (sl x : Operand) (t : TypeId)
    (ho : o.op = .call { callee := .builtin .append, args := #[sl, x], argTypes := #[t, t] }) {base U : Nat} {i : TypeInfo} (ht : P.underlying t = some (.slice U)) (hi : P.info? U = some i) (hz : i.zero = some (.int .u8 0))
    (hsize : i.size = 1) (hby : i.bytes = 1) {v xv : Value} {ds s : List UInt8} {D : Nat} {nn : Bool} (hs : a.eval sl = v) (hown : Own U base w v ds) (hx : a.eval x = xv) (hsp : Sp w D nn xv s) (hb : base ≤ w.heap.size) (hl : ds.length + s.length ≤ lim2)
    (h : ∀ v' w', Own U base w' v' (ds ++ s) → Only (fun j => v.ownBlock = some j) w w' → wpList P ops Q rest (a.put o.dst v') w') : wpList P ops Q (o :: rest) a w := by
  unfold lim2 at hl
  rcases hsp with ⟨_, hv, rfl⟩ | ⟨_, p, c, hv, hc, hcell⟩
  · rw [hv] at hx
    refine wpList_append_own_none hgd sl x t ho base U i 1 ht hi v ds.length (ds.map u8v) hs hown hx ?_
    refine h v w ?_ (Only.refl _ _)
    simpa using hown
  · rw [hv] at hx
    refine wpList_append_own _ hgd sl x t ho base U i (.int .u8 0) 1 1 ht hi hz hsize hby rfl (by decide) v ds.length (ds.map u8v) hs hown ⟨D, p, none⟩ s.length c (s.map u8v) hx (by simp) ?_ ?_ (by unfold maxLen; omega) (by omega) hb ?_
    · intro j u hj
      have e : (⟨D, p, none⟩ : Addr).add j = ⟨D, p + j, none⟩ := by simp [Addr.add]
      rw [e]
      rw [List.getElem?_map] at hj
      cases hb : s[j]? with
      | none => rw [hb] at hj; cases hj
      | some b => rw [hb] at hj; simp at hj; rw [← hj]; exact hcell j b hb
    · intro u hu
      simp only [List.mem_map] at hu
      obtain ⟨b, _, rfl⟩ := hu
      rfl
    · intro v' w' hown' hgrow _
      refine h v' w' ?_ ⟨hgrow.os, hgrow.tape, hgrow.output, hgrow.size, fun k hk hb => hgrow.block k hk fun e => hb e.symm⟩
      unfold Own
      simpa using hown'
/-- An empty slice, wherever it points, adds nothing. -/
theorem wp_app_sp0 {P : Program} {ops : Array Oper} {rest : List Oper} {o : Oper} {a : Act} {Q : Exit → Act → World → Prop} {w : World} (hgd : o.guard = none) (sl x : Operand) (t : TypeId)
    (ho : o.op = .call { callee := .builtin .append, args := #[sl, x], argTypes := #[t, t] }) {base U : Nat} {i : TypeInfo} (ht : P.underlying t = some (.slice U)) (hi : P.info? U = some i) (hz : i.zero = some (.int .u8 0))
    (hsize : i.size = 1) (hby : i.bytes = 1) {v : Value} {ds s : List UInt8} {p : Option Addr} {c : Nat} (hs : a.eval sl = v) (hown : Own U base w v ds) (hx : a.eval x = .slice p s.length c)
    (h0 : s = []) (hc : c = 0) (hb : base ≤ w.heap.size) (hl : ds.length + s.length ≤ lim2)
    (h : ∀ v' w', Own U base w' v' (ds ++ s) → Only (fun j => base ≤ j) w w' → wpList P ops Q rest (a.put o.dst v') w') : wpList P ops Q (o :: rest) a w := by
  subst h0; subst hc
  unfold lim2 at hl
  simp only [List.length_nil, Nat.add_zero] at *
  cases p with
  | none =>
    refine wpList_append_own_none hgd sl x t ho base U i 1 ht hi v ds.length (ds.map u8v) hs hown hx ?_
    refine h v w ?_ (Only.refl _ _)
    simpa using hown
  | some g =>
    refine wpList_append_own _ hgd sl x t ho base U i (.int .u8 0) 1 1 ht hi hz hsize hby rfl (by decide) v ds.length (ds.map u8v) hs hown g 0 0 [] hx (by simp) ?_ ?_ (by unfold maxLen; omega) (by omega) hb ?_
    · intro j u hj; simp at hj
    · intro u hu; simp at hu
    · intro v' w' hown' hgrow _
      refine h v' w' ?_ (Only.grown hgrow fun g hg => (World.ownsRow.lt hown g hg).1)
      unfold Own
      simpa using hown'
end Go.Proofs.YtpefipjgcpchaaaGreatDoorR.Kf
