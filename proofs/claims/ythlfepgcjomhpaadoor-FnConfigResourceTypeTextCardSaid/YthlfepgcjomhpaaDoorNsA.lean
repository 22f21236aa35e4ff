/- Names of kinds: how a text is made plain, by the package's road and by the reference's; plain Lean, no program in sight. -/
import Derived.Test.YthlfepgcjomhpaaDoorSpA
import Derived.Lib.Case
import Derived.Lib.Space
namespace Go.Proofs.YthlfepgcjomhpaaDoor.Kf
set_option linter.unusedVariables false
set_option linter.unusedSimpArgs false
open Go Go.RowKit

def rmB (c : UInt8) (l : List UInt8) : List UInt8 := l.filter (· != c)
/-- The package's road: dots, underscores and dashes away, blanks at the ends away, letters small. -/
def strnormL (l : List UInt8) : List UInt8 := Lib.toLowerA (Lib.trimSpace (rmB 45 (rmB 95 (rmB 46 l))))
def keepB (b : UInt8) : Bool := b != 46 && b != 95 && b != 45
/-- The reference's road: letters small, dots, underscores and dashes away, then blanks at the ends. -/
def normL (l : List UInt8) : List UInt8 := Lib.trimSpace ((l.map Lib.lowerB).filter keepB)

theorem all8 {p : UInt8 → Bool} (h : ∀ i : Fin 256, p (UInt8.ofNat i.val) = true) (b : UInt8) : p b = true := by
  have := h ⟨b.toNat, b.toNat_lt⟩
  simpa using this
set_option maxRecDepth 100000 in
theorem sp_lower (b : UInt8) : Lib.isSp (Lib.lowerB b) = Lib.isSp b := by
  have := all8 (p := fun b => Lib.isSp (Lib.lowerB b) == Lib.isSp b) (by decide) b
  simpa using this
set_option maxRecDepth 100000 in
theorem keep_lower (b : UInt8) : keepB (Lib.lowerB b) = keepB b := by
  have := all8 (p := fun b => keepB (Lib.lowerB b) == keepB b) (by decide) b
  simpa using this

theorem dropWhile_map {α β : Type} (f : α → β) (p : β → Bool) (q : α → Bool) (h : ∀ a, p (f a) = q a) : ∀ l : List α, (l.map f).dropWhile p = (l.dropWhile q).map f
  | [] => rfl
  | a :: l => by
    simp only [List.map_cons, List.dropWhile_cons, h]
    cases q a with
    | true => simpa using dropWhile_map f p q h l
    | false => simp
theorem trim_lower (l : List UInt8) : Lib.trimSpace (l.map Lib.lowerB) = (Lib.trimSpace l).map Lib.lowerB := by
  unfold Lib.trimSpace
  rw [dropWhile_map _ _ _ sp_lower, ← List.map_reverse, dropWhile_map _ _ _ sp_lower, ← List.map_reverse]
theorem filter_lower : ∀ l : List UInt8, (l.map Lib.lowerB).filter keepB = (l.filter keepB).map Lib.lowerB
  | [] => rfl
  | a :: l => by
    simp only [List.map_cons, List.filter_cons, keep_lower]
    cases keepB a with
    | true => simpa using filter_lower l
    | false => simpa using filter_lower l
theorem rm3 (l : List UInt8) : rmB 45 (rmB 95 (rmB 46 l)) = l.filter keepB := by
  unfold rmB
  rw [List.filter_filter, List.filter_filter]
  apply List.filter_congr
  intro x _
  unfold keepB
  cases x != 46 <;> cases x != 95 <;> cases x != 45 <;> rfl
theorem strnorm_eq (l : List UInt8) : strnormL l = normL l := by
  unfold strnormL normL
  rw [rm3, filter_lower, trim_lower]
  rfl

/-- The place of the first c, or -1. -/
def ixB (c : UInt8) (l : List UInt8) : Int := if c ∈ l then ((l.takeWhile (· != c)).length : Int) else -1
theorem ixB_cons (c x : UInt8) (l : List UInt8) : ixB c (x :: l) = if x = c then 0 else if ixB c l < 0 then -1 else ixB c l + 1 := by
  unfold ixB
  by_cases hx : x = c
  · subst hx; simp
  · rw [if_neg hx]
    by_cases hc : c ∈ l
    · have h1 : (x != c) = true := by simpa using hx
      simp only [List.mem_cons, hc, or_true, if_true, List.takeWhile_cons, h1]
      have : ¬ (((l.takeWhile (· != c)).length : Int) < 0) := by omega
      rw [if_neg this]
      simp
    · have : c ∉ x :: l := by simp [hc, Ne.symm hx]
      rw [if_neg this, if_neg hc]
      simp
theorem ixB_none {c : UInt8} {l : List UInt8} (h : ∀ (j : Nat) b, l[j]? = some b → b ≠ c) : ixB c l = -1 := by
  unfold ixB
  rw [if_neg]
  intro hc
  obtain ⟨j, hj, e⟩ := List.getElem_of_mem hc
  exact h j l[j] (List.getElem?_eq_getElem hj) e
theorem takeWhile_take {α : Type} (p : α → Bool) : ∀ (l : List α) (k : Nat), (∀ j b, j < k → l[j]? = some b → p b = true) → (∀ b, l[k]? = some b → p b = false) → l.takeWhile p = l.take k
  | [], k, _, _ => by simp
  | x :: l, 0, _, h2 => by
    have := h2 x (by simp)
    simp [List.takeWhile_cons, this]
  | x :: l, k + 1, h1, h2 => by
    have hx : p x = true := h1 0 x (by omega) (by simp)
    rw [List.takeWhile_cons, hx, List.take_succ_cons]
    simp only [if_true]
    rw [takeWhile_take p l k (fun j b hj hb => h1 (j + 1) b (by omega) (by simpa using hb)) (fun b hb => h2 b (by simpa using hb))]
theorem ixB_at {c : UInt8} {l : List UInt8} {k : Nat} (h1 : ∀ (j : Nat) b, j < k → l[j]? = some b → b ≠ c) (h2 : l[k]? = some c) : ixB c l = k := by
  unfold ixB
  have hk : k < l.length := (List.getElem?_eq_some_iff.1 h2).1
  rw [if_pos (List.mem_of_getElem? h2), takeWhile_take _ l k (fun j b hj hb => by simpa using h1 j b hj hb) (fun b hb => by rw [h2] at hb; cases hb; simp), List.length_take]
  omega
/-- What lies ahead of the first c is kept, c is not. -/
theorem rm_step {c : UInt8} {l : List UInt8} {k : Nat} (h : ixB c l = k) : k < l.length ∧ rmB c l = l.take k ++ rmB c (l.drop (k + 1)) := by
  induction l generalizing k with
  | nil => unfold ixB at h; rw [if_neg (by simp)] at h; omega
  | cons x l ih =>
    rw [ixB_cons] at h
    by_cases hx : x = c
    · rw [if_pos hx] at h
      have : k = 0 := by omega
      subst this
      refine ⟨by simp, ?_⟩
      subst hx
      simp [rmB]
    · rw [if_neg hx] at h
      by_cases h0 : ixB c l < 0
      · rw [if_pos h0] at h; omega
      · rw [if_neg h0] at h
        obtain ⟨m, hm⟩ : ∃ m : Nat, ixB c l = m := ⟨(ixB c l).toNat, by omega⟩
        obtain ⟨h1, h2⟩ := ih hm
        have : k = m + 1 := by omega
        subst this
        refine ⟨by simp; omega, ?_⟩
        have hxc : (x != c) = true := by simpa using hx
        have e : rmB c (x :: l) = x :: rmB c l := by simp [rmB, hxc]
        rw [e, h2]
        simp
theorem rm_none {c : UInt8} {l : List UInt8} (h : ixB c l < 0) : rmB c l = l := by
  unfold ixB at h
  split at h
  · omega
  · rename_i hc
    unfold rmB
    apply List.filter_eq_self.2
    intro x hx
    simp
    rintro rfl
    exact hc hx
theorem ixB_lt {c : UInt8} {l : List UInt8} : ixB c l < l.length := by
  by_cases h : ixB c l < 0
  · omega
  · have := (rm_step (c := c) (l := l) (k := (ixB c l).toNat) (by omega)).1
    omega

theorem rmB_sub {c : UInt8} {l : List UInt8} {b : UInt8} (h : b ∈ rmB c l) : b ∈ l := (List.mem_filter.1 h).1
theorem rmB_len (c : UInt8) (l : List UInt8) : (rmB c l).length ≤ l.length := List.length_filter_le _ _
theorem dropWhile_mem {α : Type} {p : α → Bool} {x : α} : ∀ {l : List α}, x ∈ l.dropWhile p → x ∈ l
  | [], h => h
  | a :: l, h => by
    rw [List.dropWhile_cons] at h
    split at h
    · exact List.mem_cons_of_mem _ (dropWhile_mem h)
    · exact h
theorem trim_sub {l : List UInt8} {b : UInt8} (h : b ∈ Lib.trimSpace l) : b ∈ l := by
  unfold Lib.trimSpace at h
  rw [List.mem_reverse] at h
  have h1 := dropWhile_mem h
  rw [List.mem_reverse] at h1
  exact dropWhile_mem h1
theorem dropWhile_len {α : Type} (p : α → Bool) : ∀ l : List α, (l.dropWhile p).length ≤ l.length
  | [] => Nat.le_refl _
  | a :: l => by
    rw [List.dropWhile_cons]
    split
    · have := dropWhile_len p l; simp; omega
    · exact Nat.le_refl _
theorem trim_len (l : List UInt8) : (Lib.trimSpace l).length ≤ l.length := by
  unfold Lib.trimSpace
  have h1 := dropWhile_len Lib.isSp l
  have h2 := dropWhile_len Lib.isSp (l.dropWhile Lib.isSp).reverse
  simp only [List.length_reverse] at *
  omega

/-- Trimming from the left, k blanks away. -/
theorem dropWhile_at {p : UInt8 → Bool} {l : List UInt8} {k : Nat} (hk : k ≤ l.length) (h1 : ∀ (j : Nat) b, j < k → l[j]? = some b → p b = true) (h2 : ∀ b, l[k]? = some b → p b = false) : l.dropWhile p = l.drop k :=
  Lib.dropWhile_drop p l k (fun j b hj hb => h1 j b hj hb) h2 hk

/-- The first name whose word says what the text says. -/
def parsedL : List (Int × List UInt8) → List UInt8 → Int × Bool
  | [], _ => (0, false)
  | x :: l, s => if normL x.2 = normL s then (x.1, true) else parsedL l s

end Go.Proofs.YthlfepgcjomhpaaDoor.Kf
