/- Keys collected out of a map of tags and sorted: what is collected is all keys, each once; sorted they are the list's own. -/
import Derived.Test.YtpefipjgcpchaaaGreatDoorRTagA
import Derived.Sort.OwnSorted
import Derived.Sort.LotA
namespace Go.Proofs.YtpefipjgcpchaaaGreatDoorR.Kf
set_option linter.unusedVariables false
set_option linter.unusedSimpArgs false
open Go Go.RowKit Go.Sort

abbrev encK : Int → Value := Value.int .u32
def keysT (l : List (Nat × List UInt8)) : List Int := l.map fun x => (x.1 : Int)

theorem holds_of_blockK {w : World} {g : Nat} {cur : Array Value} {e : TypeId} {ss : List Int} (hb : w.heap[g]? = some (.cells cur e (0, 0))) (ht : cur.toList.take ss.length = ss.map encK) : Go.Sort.Holds encK w g 0 ss.toArray := by
  intro j hj
  have hj' : j < ss.length := by simpa using hj
  refine ⟨?_, by simp [World.frozen?, hb]⟩
  have h1 : (cur.toList.take ss.length)[j]? = (ss.map encK)[j]? := by rw [ht]
  rw [List.getElem?_take_of_lt hj'] at h1
  simp only [World.cell?, hb, Nat.zero_add]
  simp only [Option.isSome_none, Bool.false_eq_true, if_false]
  rw [← Array.getElem?_toList, h1]
  simp [hj']
theorem heap_sortedK {w : World} {g n : Nat} {os : Array Obj} {cur : Array Value} {e : TypeId} {fr : Nat × Nat} (d : Array Int) (hb : w.heap[g]? = some (.cells cur e fr)) :
    (grow (putRow encK (Sort.ahead w n) g 0 d) os).heap[g]? = some (.cells (putCells encK 0 d cur) e fr) := by
  have hg : g < w.heap.size := (Array.getElem?_eq_some_iff.1 hb).1
  rw [heap_grow_old _ _ (by simpa using hg)]
  simp [putRow, mapBlock, Sort.ahead, Array.getElem?_modify, hb, onCells]
theorem grownBy_sortedK {w : World} {g n : Nat} {os : Array Obj} (d : Array Int) : w.grownBy (grow (putRow encK (Sort.ahead w n) g 0 d) os) (some g) := by
  refine ⟨rfl, rfl, rfl, by simp, fun k hk hne => ?_⟩
  rw [heap_grow_old _ _ (by simpa using hk)]
  have : g ≠ k := fun e => hne (by rw [e])
  simp [putRow, mapBlock, Sort.ahead, Array.getElem?_modify, this]
theorem take_putCellsK (cur : Array Value) (ts : List Int) (h : ts.length ≤ cur.size) : (putCells encK 0 ts.toArray cur).toList.take ts.length = ts.map encK := by
  apply List.ext_getElem?
  intro j
  by_cases hj : j < ts.length
  · rw [List.getElem?_take_of_lt hj, Array.getElem?_toList]
    simp [putCells, hj, show j < cur.size by omega]
  · rw [List.getElem?_take_eq_none (by omega), List.getElem?_eq_none (by simp; omega)]
theorem ownsRow_sortedK {w : World} {base g cap n : Nat} {e : TypeId} {os : Array Obj} {cur : Array Value} {ss ts : List Int} (hl : ts.length = ss.length) (hbase : base ≤ g) (hb : w.heap[g]? = some (.cells cur e (0, 0)))
    (h1 : ss.length ≤ cap) (h2 : cap ≤ maxLen) (h3 : cur.size = cap * 1) :
    (grow (putRow encK (Sort.ahead w n) g 0 ts.toArray) os).ownsRow base e 1 (.slice (some ⟨g, 0, none⟩) ss.length cap) ss.length (ts.map encK) :=
  ⟨by simp [hl], .inr ⟨g, cap, _, rfl, hbase, heap_sortedK _ hb, h1, h2, by simp [putCells, h3], by rw [Nat.mul_one, ← hl]; exact take_putCellsK cur ts (by omega)⟩⟩

theorem keysT_sorted : ∀ (l : List (Nat × List UInt8)) (b : Nat), upTags b l → (keysT l).Pairwise (fun x y => x < y) := by
  intro l
  induction l with
  | nil => intro b _; exact List.Pairwise.nil
  | cons x l ih =>
    obtain ⟨j, u⟩ := x
    intro b h
    refine List.pairwise_cons.2 ⟨fun q hq => ?_, ih _ h.2.2.2⟩
    have := tags_sorted _ _ h
    rw [List.map_cons, List.pairwise_cons] at this
    obtain ⟨y, hy, rfl⟩ := List.mem_map.1 hq
    have := this.1 (tagE y) (List.mem_map.2 ⟨y, hy, rfl⟩)
    simpa [tagE, Lit.before] using this

/-- Which keys have been met. -/
def CollK (l : List (Nat × List UInt8)) (left : Lit → Bool) (ss : List Int) : Prop := ss.Nodup ∧ ∀ x, x ∈ ss ↔ (Maps.has (tagD l) (.int .u32 x) = true ∧ left (.int .u32 x) = false)
theorem CollK.start (l : List (Nat × List UInt8)) : CollK l (Maps.has (tagD l)) [] := ⟨List.nodup_nil, fun x => by cases Maps.has (tagD l) (.int .u32 x) <;> simp⟩
theorem CollK.step {l : List (Nat × List UInt8)} {left : Lit → Bool} {ss : List Int} (h : CollK l left ss) {x : Int} {y : DataW (List UInt8)} (hlk : left (.int .u32 x) = true) (hat : ∀ zd, (tagD l).atKey (.int .u32 x) zd = y) : CollK l (fun z => left z && !z.sameKey (.int .u32 x)) (ss ++ [x]) := by
  have hhas : Maps.has (tagD l) (.int .u32 x) = true := Maps.has_true_of_atKey hat
  have hnew : x ∉ ss := fun hx => by have := ((h.2 x).1 hx).2; rw [hlk] at this; cases this
  refine ⟨List.nodup_append.2 ⟨h.1, by simp, fun a ha b hb => by simp at hb; subst hb; exact fun e => hnew (e ▸ ha)⟩, fun y => ?_⟩
  by_cases hy : y = x
  · subst hy; simp [hhas, Lit.sameKey]
  · simp [h.2 y, hy, Lit.sameKey]
theorem CollK.perm {l : List (Nat × List UInt8)} {left : Lit → Bool} {ss : List Int} (h : CollK l left ss) (hu : upTags 0 l) (hl : ∀ kl, left kl = false) : ss.Perm (keysT l) := by
  refine (List.perm_ext_iff_of_nodup h.1 ((keysT_sorted l 0 hu).imp fun {a b} hab => by omega)).2 fun x => ?_
  rw [h.2 x, hl, tagD_has]
  simp only [and_true]
  constructor
  · rintro ⟨y, hy, rfl⟩; exact List.mem_map.2 ⟨y, hy, rfl⟩
  · intro hx
    obtain ⟨y, hy, rfl⟩ := List.mem_map.1 hx
    exact ⟨y, hy, rfl⟩
/-- Sorted they are the list's own keys. -/
theorem sorted_keys {l : List (Nat × List UInt8)} {ss : List Int} {d' : Array Int} (hu : upTags 0 l) (hp : ss.Perm (keysT l)) (hq : PermIn 0 ss.toArray.size ss.toArray d') (hs : SortedIn ltInt 0 ss.toArray.size d') : d' = (keysT l).toArray := by
  obtain ⟨hsz, _, hperm⟩ := hq
  have e1 : d'.extract 0 ss.toArray.size = d' := by rw [← hsz]; exact Array.extract_size
  rw [e1, Array.extract_size] at hperm
  have hp2 : d'.toList.Perm (keysT l) := hperm.trans hp
  have h1 : d'.toList.Pairwise (fun x y => x ≤ y) := by
    rw [List.pairwise_iff_getElem]
    intro i j hi hj hij
    have hj' : j < d'.size := by simpa using hj
    have := hs i j (Nat.zero_le _) hij (by omega)
    simp only [ltInt, decide_eq_false_iff_not] at this
    rw [getElem!_pos d' j hj', getElem!_pos d' i (by omega)] at this
    simp only [Array.getElem_toList]
    omega
  have h2 : (keysT l).Pairwise (fun x y => x ≤ y) := (keysT_sorted l 0 hu).imp fun {a b} hab => by omega
  have := List.Perm.eq_of_pairwise (le := fun x y : Int => x ≤ y) (fun a b _ _ h1 h2 => by omega) h1 h2 hp2
  rw [← this]
end Go.Proofs.YtpefipjgcpchaaaGreatDoorR.Kf
