/- Tags in a map: from its entries to a list by rising numbers and back; one more tag. -/
import Derived.Test.YtpefipjgcpchaaaGreatDoorRKbE
import Derived.Maps.OwnSet
import Derived.Maps.RangeWalk
namespace Go.Proofs.YtpefipjgcpchaaaGreatDoorR.Kf
set_option linter.unusedVariables false
set_option linter.unusedSimpArgs false
open Go Go.RowKit
open Go.WideElems (Fit rd rg rd_key rd_val rg_of)

theorem u8v_inj {x y : UInt8} (h : u8v x = u8v y) : x = y := by
  unfold u8v at h
  injection h with _ h
  exact UInt8.toNat_inj.1 (by omega)
theorem Sp.fn {w : World} {D : Nat} {nn nn' : Bool} {v : Value} {s s' : List UInt8} (h : Sp w D nn v s) (h' : Sp w D nn' v s') : s = s' := by
  rcases h with ⟨_, h1, h2⟩ | ⟨_, o, c, h1, h2, h3⟩ <;> rcases h' with ⟨_, k1, k2⟩ | ⟨_, o', c', k1, k2, k3⟩
  · rw [h2, k2]
  · rw [h1] at k1; cases k1
  · rw [h1] at k1; cases k1
  · rw [h1] at k1
    injection k1 with e1 e2 e3
    injection e1 with e1
    injection e1 with _ e1
    subst e1
    refine List.ext_getElem e2 fun j hj hj' => ?_
    have a := h3 j _ (List.getElem?_eq_getElem hj)
    have b := k3 j _ (List.getElem?_eq_getElem hj')
    rw [a] at b
    exact u8v_inj (Option.some.inj b)

/-- What a value in a map of tags reads as: its octets. -/
noncomputable def RO (w : World) (D : Nat) (v : Value) : Option (DataW (List UInt8) × List MemPlace) :=
  open Classical in if h : ∃ s nn, Sp w D nn v s then some (.held h.choose, []) else none
theorem RO_sp {w : World} {D : Nat} {nn : Bool} {v : Value} {s : List UInt8} (h : Sp w D nn v s) : RO w D v = some (.held s, []) := by
  unfold RO
  have hx : ∃ s nn, Sp w D nn v s := ⟨s, nn, h⟩
  rw [dif_pos hx]
  obtain ⟨nn', h'⟩ := hx.choose_spec
  rw [h'.fn h]
theorem RO_inv {w : World} {D : Nat} {v : Value} {y : DataW (List UInt8) × List MemPlace} (h : RO w D v = some y) : ∃ s nn, y = (.held s, []) ∧ Sp w D nn v s := by
  unfold RO at h
  split at h
  · rename_i hx
    obtain ⟨nn', h'⟩ := hx.choose_spec
    exact ⟨_, nn', (Option.some.inj h).symm, h'⟩
  · cases h
theorem RO_keep {w w' : World} {D : Nat} (h : w'.heap[D]? = w.heap[D]?) : RO w' D = RO w D := by
  funext v
  have e : (∃ s nn, Sp w' D nn v s) = (∃ s nn, Sp w D nn v s) := propext ⟨fun ⟨s, nn, k⟩ => ⟨s, nn, k.keep h.symm⟩, fun ⟨s, nn, k⟩ => ⟨s, nn, k.keep h⟩⟩
  by_cases hx : ∃ s nn, Sp w D nn v s
  · obtain ⟨s, nn, k⟩ := hx
    rw [RO_sp k, RO_sp (k.keep h)]
  · unfold RO
    rw [dif_neg hx, dif_neg (e ▸ hx)]

def tagE (x : Nat × List UInt8) : Lit × DataW (List UInt8) := (.int .u32 x.1, .held x.2)
/-- Tags as a map's datum. -/
def tagD (l : List (Nat × List UInt8)) : DataW (List UInt8) := .map (l.map tagE)
def unE : Lit × DataW (List UInt8) → Nat × List UInt8
  | (.int _ z, .held b) => (z.toNat, b)
  | _ => (0, [])
theorem unE_tagE (x : Nat × List UInt8) : unE (tagE x) = x := by simp [unE, tagE]
theorem map_unE (l : List (Nat × List UInt8)) : (l.map tagE).map unE = l := by
  rw [List.map_map]
  have : (unE ∘ tagE) = id := by funext x; exact unE_tagE x
  rw [this, List.map_id]

theorem tags_filter (k : Nat) : ∀ (l : List (Nat × List UInt8)) (b : Nat), upTags b l → k < b → (l.map tagE).filter (fun p => !p.1.sameKey (.int .u32 k)) = l.map tagE := by
  intro l
  induction l with
  | nil => intro b _ _; rfl
  | cons x l ih =>
    obtain ⟨j, u⟩ := x
    intro b h hb
    have h1 := h.1
    have e : decide ((j : Int) = (k : Int)) = false := by simp; omega
    simp only [List.map_cons, tagE, List.filter_cons, Lit.sameKey, true_and, e, Bool.not_false, if_true]
    exact congrArg _ (ih (j + 1) h.2.2.2 (by omega))
theorem tags_head (k : Nat) (v : List UInt8) (l : List (Nat × List UInt8)) (h : upTags (k + 1) l) : DataW.insert (.int .u32 k, .held v) (l.map tagE) = (((k, v) :: l).map tagE) := by
  cases l with
  | nil => rfl
  | cons x l =>
    obtain ⟨j, u⟩ := x
    have h1 := h.1
    have e : decide ((k : Int) < (j : Int)) = true := by simp; omega
    simp only [List.map_cons, tagE, DataW.insert, Lit.before, e, if_true]
theorem tagD_put (k : Nat) (v : List UInt8) : ∀ (l : List (Nat × List UInt8)) (b : Nat), upTags b l →
    DataW.insert (.int .u32 k, .held v) ((l.map tagE).filter (fun p => !p.1.sameKey (.int .u32 k))) = (tset k v l).map tagE := by
  intro l
  induction l with
  | nil => intro b _; rfl
  | cons x l ih =>
    obtain ⟨j, u⟩ := x
    intro b h
    unfold tset
    by_cases h1 : k < j
    · rw [if_pos h1, tags_filter k ((j, u) :: l) j ⟨Nat.le_refl _, h.2⟩ h1]
      exact tags_head k v ((j, u) :: l) ⟨h1, h.2⟩
    · rw [if_neg h1]
      by_cases h2 : k = j
      · subst h2
        rw [if_pos rfl]
        have := tags_filter k l (k + 1) h.2.2.2 (by omega)
        rw [List.map_cons, List.filter_cons_of_neg (by simp [tagE, Lit.sameKey]), this]
        exact tags_head k v _ h.2.2.2
      · rw [if_neg h2]
        have e : decide ((j : Int) = (k : Int)) = false := by simp; omega
        have e2 : decide ((k : Int) < (j : Int)) = false := by simp; omega
        have := ih (j + 1) h.2.2.2
        simp only [List.map_cons, tagE, List.filter_cons, Lit.sameKey, true_and, e, Bool.not_false, if_true, DataW.insert, Lit.before, e2, Bool.false_eq_true, if_false]
        exact congrArg _ this
theorem tagD_put' {k : Nat} {v : List UInt8} {l : List (Nat × List UInt8)} (h : upTags 0 l) : (tagD l).put (.int .u32 k) (.held v) = tagD (tset k v l) := by
  show DataW.map _ = DataW.map _
  rw [tagD_put k v l 0 h]
theorem tags_sorted : ∀ (l : List (Nat × List UInt8)) (b : Nat), upTags b l → (l.map tagE).Pairwise (fun p q => p.1.before q.1 = true) := by
  intro l
  induction l with
  | nil => intro b _; exact List.Pairwise.nil
  | cons x l ih =>
    obtain ⟨j, u⟩ := x
    intro b h
    refine List.pairwise_cons.2 ⟨fun q hq => ?_, ih _ h.2.2.2⟩
    obtain ⟨y, hy, rfl⟩ := List.mem_map.1 hq
    have : ∀ (l : List (Nat × List UInt8)) (b : Nat), upTags b l → ∀ y ∈ l, b ≤ y.1 := by
      intro l
      induction l with
      | nil => intro b _ y hy; cases hy
      | cons x l ih =>
        obtain ⟨j, u⟩ := x
        intro b h y hy
        rcases List.mem_cons.1 hy with rfl | hy
        · exact h.1
        · have := ih _ h.2.2.2 y hy; have := h.1; omega
    have := this l _ h.2.2.2 y hy
    simp only [tagE, Lit.before, decide_eq_true_eq]
    omega
theorem upTags_lt : ∀ (l : List (Nat × List UInt8)) (b : Nat), upTags b l → ∀ x ∈ l, x.1 < 4294967296 ∧ x.2.length < 4294967296 := by
  intro l
  induction l with
  | nil => intro b _ y hy; cases hy
  | cons x l ih =>
    obtain ⟨j, u⟩ := x
    intro b h y hy
    rcases List.mem_cons.1 hy with rfl | hy
    · exact ⟨h.2.1, h.2.2.1⟩
    · exact ih _ h.2.2.2 y hy
theorem wf_u32 {k : Nat} (h : k < 4294967296) : (Lit.int .u32 (k : Int)).wf = true := by
  simp [Lit.wf, IntKind.min, IntKind.max, IntKind.signed, IntKind.bits]; omega

section
variable {P : Program} {k : TypeId}
theorem MapAt.owns {w : World} {D r : Nat} {l : List (Nat × List UInt8)} (hk : P.underlying k = some (.int .u32)) (h : MapAt w D r l) (hu : upTags 0 l) (hl : l.length ≤ maxLen) : w.ownsMap P k (RO w D) r l.length (tagD l) := by
  obtain ⟨es, clock, hb, hst, p, hp, hlen, hx⟩ := h
  have hpl := hp.length_eq
  have hes : es.size = p.length := by simpa using hlen
  have one : ∀ (j : Nat) (e : MapEntry) (x : Nat × List UInt8), es.toList[j]? = some e → p[j]? = some x → rd P k (RO w D) e = some (tagE x) := by
    intro j e x he hxx
    obtain ⟨h1, nn, h2⟩ := hx j e x he hxx
    have hlt := (upTags_lt l 0 hu x (hp.mem_iff.1 (List.mem_of_getElem? hxx))).1
    unfold rd
    rw [h1, Maps.keyOf_int_mk hk (wf_u32 hlt), RO_sp h2]
    rfl
  have reads : ∀ e ∈ es.toList, ∃ y, rd P k (RO w D) e = some y := by
    intro e he
    obtain ⟨j, hj, rfl⟩ := List.getElem_of_mem he
    exact ⟨_, one j _ _ (List.getElem?_eq_getElem hj) (List.getElem?_eq_getElem (by omega : j < p.length))⟩
  have F : Fit P k (RO w D) es clock := ⟨by omega, hst, reads⟩
  refine ⟨es, clock, hb, F, by omega, ?_⟩
  have e1 : es.toList.map (rg P k (RO w D)) = p.map tagE := by
    refine List.ext_getElem? fun j => ?_
    rw [List.getElem?_map, List.getElem?_map]
    by_cases hj : j < es.toList.length
    · have hj' : j < p.length := by omega
      rw [List.getElem?_eq_getElem hj, List.getElem?_eq_getElem hj']
      exact congrArg some (rg_of (one j _ _ (List.getElem?_eq_getElem hj) (List.getElem?_eq_getElem hj')))
    · rw [List.getElem?_eq_none (by omega), List.getElem?_eq_none (by omega)]; rfl
  rw [e1]
  show DataW.map _ = DataW.map _
  refine congrArg _ ((ChangeMaps.eq_of_perm_sorted ?_ ?_ (tags_sorted l 0 hu)).symm)
  · exact (WideShapes.sorted_perm _).trans (hp.map _)
  · rw [← e1]
    exact Maps.sorted_sorted (Maps.int_keyed hk).one _ (Maps.fit_keys F) (Maps.fit_apart (Maps.int_keyed hk) F)

theorem owns_mapAt {w : World} {D r n : Nat} {l : List (Nat × List UInt8)} (hk : P.underlying k = some (.int .u32)) (h : w.ownsMap P k (RO w D) r n (tagD l)) : MapAt w D r l := by
  obtain ⟨es, clock, hb, F, hs, hD⟩ := h
  have hD' : l.map tagE = (es.toList.map (rg P k (RO w D))).foldr DataW.insert [] := by injection hD
  have hperm : (es.toList.map (rg P k (RO w D))).Perm (l.map tagE) := by rw [hD']; exact (WideShapes.sorted_perm _).symm
  refine ⟨es, clock, hb, F.stamped, (es.toList.map (rg P k (RO w D))).map unE, ?_, by simp, ?_⟩
  · have := hperm.map unE
    rwa [map_unE] at this
  · intro j e x he hx
    rw [List.getElem?_map, List.getElem?_map, he] at hx
    have hx' : unE (rg P k (RO w D) e) = x := by simpa using hx
    obtain ⟨y, hy⟩ := F.reads e (List.mem_of_getElem? he)
    rw [rg_of hy] at hx'
    obtain ⟨a, ha, hl, hw⟩ := Maps.keyOf_int_inv hk (rd_key hy)
    obtain ⟨z, hz, hd⟩ := rd_val hy
    obtain ⟨s, nn, rfl, hsp⟩ := RO_inv hz
    obtain ⟨y1, y2⟩ := y
    simp only at hl hd
    subst hl; subst hd
    have h0 : 0 ≤ a := by simp [Lit.wf, IntKind.min, IntKind.signed] at hw; omega
    subst hx'
    refine ⟨?_, nn, hsp⟩
    rw [ha]
    simp only [unE]
    rw [Int.toNat_of_nonneg h0]

/-- A tags' variable: no map, or one of the call's own. -/
def TagsV (P : Program) (k : TypeId) (w : World) (D base n : Nat) (l : List (Nat × List UInt8)) (tv : Value) : Prop :=
  (tv = .map none ∧ l = []) ∨ ∃ r, tv = .map (some r) ∧ base ≤ r ∧ w.ownsMap P k (RO w D) r n (tagD l)
theorem TagsV.mono {w : World} {D base n n' : Nat} {l : List (Nat × List UInt8)} {tv : Value} (h : TagsV P k w D base n l tv) (hn : n ≤ n') : TagsV P k w D base n' l tv := by
  rcases h with h | ⟨r, h1, h2, h3⟩
  · exact .inl h
  · exact .inr ⟨r, h1, h2, h3.mono hn⟩
theorem TagsV.keep {w w' : World} {D base n : Nat} {l : List (Nat × List UInt8)} {tv : Value} (h : TagsV P k w D base n l tv) (hD : w'.heap[D]? = w.heap[D]?) (hr : ∀ r, base ≤ r → tv = .map (some r) → w'.heap[r]? = w.heap[r]?) : TagsV P k w' D base n l tv := by
  rcases h with h | ⟨r, h1, h2, h3⟩
  · exact .inl h
  · refine .inr ⟨r, h1, h2, ?_⟩
    rw [RO_keep hD]
    obtain ⟨es, clock, hb, rest⟩ := h3
    exact ⟨es, clock, (hr r h2 h1).trans hb, rest⟩
theorem TagsV.leaf {w : World} {D base n : Nat} {l : List (Nat × List UInt8)} {tv : Value} (hk : P.underlying k = some (.int .u32)) (h : TagsV P k w D base n l tv) : LTags D w base w.heap.size [tv] (.tags l) := by
  refine ⟨l, rfl, ?_⟩
  rcases h with ⟨rfl, rfl⟩ | ⟨r, rfl, h2, h3⟩
  · exact .inl ⟨rfl, rfl⟩
  · exact .inr ⟨r, rfl, h2, h3.lt, owns_mapAt hk h3⟩
theorem TagsV.cell {w : World} {D base n : Nat} {l : List (Nat × List UInt8)} {tv : Value} (h : TagsV P k w D base n l tv) : tv.oneCell' = true ∧ tv.cells = #[tv] := by
  rcases h with ⟨rfl, _⟩ | ⟨r, rfl, _⟩ <;> exact ⟨rfl, rfl⟩
end

theorem tagD_at (l : List (Nat × List UInt8)) (b : Nat) (h : upTags b l) (x : Nat × List UInt8) (hx : x ∈ l) (zd : DataW (List UInt8)) : (tagD l).atKey (.int .u32 x.1) zd = .held x.2 := by
  induction l generalizing b with
  | nil => cases hx
  | cons y l ih =>
    obtain ⟨j, u⟩ := y
    unfold tagD DataW.atKey
    simp only [List.map_cons, List.find?_cons]
    rcases List.mem_cons.1 hx with rfl | hx
    · simp [tagE, Lit.sameKey]
    · have := (tags_sorted _ _ h)
      rw [List.map_cons, List.pairwise_cons] at this
      have := this.1 (tagE x) (List.mem_map.2 ⟨x, hx, rfl⟩)
      simp only [tagE, Lit.before, decide_eq_true_eq] at this
      have e : (tagE (j, u)).1.sameKey (.int .u32 x.1) = false := by simp [tagE, Lit.sameKey]; omega
      rw [e]
      have k := ih _ h.2.2.2 hx
      unfold tagD DataW.atKey at k
      exact k
theorem tagD_has (l : List (Nat × List UInt8)) (k : Int) : Maps.has (tagD l) (.int .u32 k) = true ↔ ∃ x ∈ l, (x.1 : Int) = k := by
  show (l.map tagE).any _ = true ↔ _
  rw [List.any_eq_true]
  constructor
  · rintro ⟨p, hp, h⟩
    obtain ⟨x, hx, rfl⟩ := List.mem_map.1 hp
    exact ⟨x, hx, by simpa [tagE, Lit.sameKey] using h⟩
  · rintro ⟨x, hx, h⟩
    exact ⟨tagE x, List.mem_map.2 ⟨x, hx, rfl⟩, by simpa [tagE, Lit.sameKey] using h⟩
theorem tagD_size (l : List (Nat × List UInt8)) : Maps.size (tagD l) = l.length := by simp [tagD, Maps.size]
end Go.Proofs.YtpefipjgcpchaaaGreatDoorR.Kf
