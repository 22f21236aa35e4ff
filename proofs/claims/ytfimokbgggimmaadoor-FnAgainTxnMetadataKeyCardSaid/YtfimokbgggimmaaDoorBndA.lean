/- How long is what the reference writes: by the fields alone; by the tree's own size. -/
import Derived.Test.YtfimokbgggimmaaDoorSpec
import Derived.Test.YtfimokbgggimmaaDoorDecW
namespace Go.Proofs.YtfimokbgggimmaaDoor.Kf
set_option linter.unusedVariables false
set_option linter.unusedSimpArgs false

mutual
def Tr.size : Tr → Nat
  | .mk _ s _ l u => 1 + s.length + trsSize l + tgsSize u
def trsSize : List Tr → Nat
  | [] => 0
  | t :: l => Tr.size t + trsSize l
def tgsSize : List (Nat × List UInt8) → Nat
  | [] => 0
  | x :: l => 1 + x.2.length + tgsSize l
end
theorem Tr.size_pos (t : Tr) : 1 ≤ t.size := by cases t; simp only [Tr.size]; omega
theorem trsSize_mem {t : Tr} : ∀ {l : List Tr}, t ∈ l → t.size ≤ trsSize l := by
  intro l
  induction l with
  | nil => intro h; cases h
  | cons y l ih =>
    intro h
    simp only [trsSize]
    rcases List.mem_cons.1 h with rfl | h
    · omega
    · have := ih h; omega
theorem trsSize_tail (l : List Tr) : trsSize l.tail ≤ trsSize l := by cases l <;> simp only [List.tail, trsSize] <;> omega
theorem trsSize_head (l : List Tr) : (l.headD tr0).size ≤ trsSize l + 1 := by
  cases l
  · simp [tr0, Tr.size, trsSize, tgsSize]
  · simp only [List.headD, trsSize]; omega
theorem Tr.size_l (t : Tr) : trsSize t.l + 1 ≤ t.size := by cases t; simp only [Tr.l, Tr.size]; omega
theorem Tr.size_s (t : Tr) : t.s.length + 1 ≤ t.size := by cases t; simp only [Tr.s, Tr.size]; omega
theorem Tr.size_u (t : Tr) : tgsSize t.u + 1 ≤ t.size := by cases t; simp only [Tr.u, Tr.size]; omega

theorem uvEncF_max : ∀ (k n : Nat), (uvEncF k n).length ≤ k := by
  intro k
  induction k with
  | zero => intro n; simp [uvEncF]
  | succ k ih =>
    intro n
    simp only [uvEncF]
    split
    · simp
    · have := ih (n / 128); simp; omega
theorem uvEnc_max (n : Nat) : (uvEnc n).length ≤ 10 := uvEncF_max 10 n
theorem cntEnc_max (c : Bool) (n : Nat) (o : Option Nat) (hn : n ≤ 10) : (cntEnc c n o).length ≤ 10 := by
  cases c <;> cases o <;> simp only [cntEnc, beEnc_length] <;> first | omega | (simp; done) | exact uvEnc_max _
theorem scalB_max (kind : Nat) (nl flex : Bool) (t : Tr) : (scalB kind nl flex t).length ≤ 26 + (t.s.take most).length := by
  unfold scalB
  split
  · simp [beEnc_length]; omega
  split
  · simp; omega
  split
  · have := cntEnc_max flex 2 (if nl then none else some (t.s.take most).length) (by decide)
    cases nl <;> simp at * <;> omega
  split
  · have := cntEnc_max flex 4 (if nl then none else some (t.s.take most).length) (by decide)
    cases nl <;> simp at * <;> omega
  · rw [beEnc_length]
    have : (kPrim kind).n ≤ 16 := by cases kPrim kind <;> decide
    omega

/-! ### by the fields alone -/
def tagsMax : Nat := 10 + 32767 * 32787
theorem tags_len_le : ∀ (b : Nat) (l : List (Nat × List UInt8)), (∀ x ∈ l, x.2.length ≤ b) → (encTags l).length ≤ l.length * (20 + b) := by
  intro b l
  induction l with
  | nil => intro _; simp [encTags]
  | cons x l ih =>
    intro h
    have h1 := h x (by simp)
    have h2 := ih (fun y hy => h y (by simp [hy]))
    have h3 := uvEnc_max x.1
    have h4 := uvEnc_max x.2.length
    simp only [encTags, List.length_append, List.length_cons] at *
    rw [Nat.add_mul]
    omega
theorem unk_max (u : List (Nat × List UInt8)) : (uvEnc (unkV u).length ++ encTags (unkV u)).length ≤ tagsMax := by
  have h1 := uvEnc_max (unkV u).length
  have h2 := tags_len_le 32767 (unkV u) (fun x hx => by
    simp only [unkV, List.mem_map] at hx
    obtain ⟨y, _, rfl⟩ := hx
    simp [most]; omega)
  have h3 := unkV_len u
  have h4 : (unkV u).length * (20 + 32767) ≤ 32767 * (20 + 32767) := Nat.mul_le_mul_right _ h3
  rw [List.length_append]; unfold tagsMax; omega

def scalBnd (kind : Nat) : Nat := if kind = 8 ∨ kind = 9 then 32793 else 26
theorem scalB_bnd (kind : Nat) (nl flex : Bool) (t : Tr) : (scalB kind nl flex t).length ≤ scalBnd kind := by
  have h := scalB_max kind nl flex t
  have h2 : (t.s.take most).length ≤ 32767 := by simp [most]; omega
  unfold scalBnd
  split
  · omega
  · rename_i hk
    unfold scalB
    rw [if_neg (fun e => hk (.inl e)), if_neg (fun e => hk (.inr e))]
    split
    · simp [beEnc_length]
    split
    · simp; omega
    · rw [beEnc_length]
      have : (kPrim kind).n ≤ 16 := by cases kPrim kind <;> decide
      omega
mutual
def Fld.bnd (flex : Bool) : Fld → Nat
  | .mk kind _ _ nu _ _ of sub => if kind = 11 then 10 + 32767 * (if of = 10 then fldsBnd flex sub else scalBnd of) else if kind = 10 then 1 + fldsBnd flex sub else scalBnd kind
def fldsBnd (flex : Bool) : List Fld → Nat
  | [] => if flex then tagsMax else 0
  | f :: fs => Fld.bnd flex f + fldsBnd flex fs
end
theorem take_most (s : List UInt8) : (s.take most).length ≤ 32767 := by simp [most]; omega
theorem flatBnd {α : Type} (g : α → List UInt8) (b : Nat) : ∀ l : List α, (∀ x ∈ l, (g x).length ≤ b) → (l.map g).flatten.length ≤ l.length * b := by
  intro l
  induction l with
  | nil => intro _; simp
  | cons x l ih =>
    intro h
    have h1 := h x (by simp)
    have h2 := ih (fun y hy => h y (by simp [hy]))
    simp only [List.map_cons, List.flatten_cons, List.length_append, List.length_cons, Nat.add_mul]
    omega
mutual
theorem field_bnd : ∀ (f : Fld) (v : Int) (flex : Bool) (t : Tr), (fieldB f v flex t).length ≤ Fld.bnd flex f
  | .mk kind fr to nu tag df of sub, v, flex, t => by
    have hs := fields_bnd sub v flex
    simp only [fieldB, Fld.bnd]
    split
    · have h1 := cntEnc_max flex 4 (if t.nl && mayN nu v then none else some (t.l.take most).length) (by decide)
      rw [List.length_append]
      cases hn : (t.nl && mayN nu v)
      · rw [hn] at h1
        simp only [Bool.false_eq_true, if_false] at *
        have h2 := flatBnd (fun x => if of = 10 then fieldsB sub v flex x.l ++ (if flex then uvEnc (unkV x.u).length ++ encTags (unkV x.u) else []) else scalB of false flex x) (if of = 10 then fldsBnd flex sub else scalBnd of) (t.l.take most) (fun x _ => by
          by_cases ho : of = 10
          · simp only [ho, if_true]
            exact hs x.l x.u
          · simp only [ho, if_false]
            exact scalB_bnd of false flex x)
        have h3 : (t.l.take most).length ≤ 32767 := by simp [most]; omega
        have h4 := Nat.mul_le_mul_right (if of = 10 then fldsBnd flex sub else scalBnd of) h3
        omega
      · rw [hn] at h1
        simp only [if_true, List.length_nil] at *
        omega
    split
    · have h1 := hs t.l t.u
      split
      · split
        · simp
        · simp only [List.length_cons]; omega
      · omega
    · exact scalB_bnd kind (t.nl && mayN nu v) flex t
theorem fields_bnd : ∀ (fs : List Fld) (v : Int) (flex : Bool) (l : List Tr) (u : List (Nat × List UInt8)), (fieldsB fs v flex l ++ (if flex then uvEnc (unkV u).length ++ encTags (unkV u) else [])).length ≤ fldsBnd flex fs
  | [], v, flex, l, u => by
    simp only [fieldsB, fldsBnd, List.nil_append]
    cases flex
    · simp
    · simp only [if_true]; exact unk_max u
  | f :: fs, v, flex, l, u => by
    have h1 := field_bnd f v flex (l.headD tr0)
    have h2 := fields_bnd fs v flex l.tail u
    simp only [fieldsB, fldsBnd]
    rw [List.append_assoc, List.length_append]
    split
    · omega
    · simp only [List.length_nil]; omega
end
theorem part_bnd (fs : List Fld) (v : Int) (flex : Bool) (t : Tr) : (partB fs v flex t).length ≤ fldsBnd flex fs := fields_bnd fs v flex t.l t.u

/-! ### by the tree's size -/
mutual
/-- So many octets at the most for each of a tree's parts. -/
def Fld.cst : Fld → Nat
  | .mk kind _ _ nu _ _ of sub => if kind = 11 then 10 + (if of = 10 then fldsCst sub else 27) else if kind = 10 then 1 + fldsCst sub else 27
def fldsCst : List Fld → Nat
  | [] => 40
  | f :: fs => Fld.cst f + fldsCst fs
end
theorem scalB_cst (kind : Nat) (nl flex : Bool) (t : Tr) : (scalB kind nl flex t).length ≤ 27 * t.size := by
  have h1 := scalB_max kind nl flex t
  have h2 := t.size_s
  have h3 : (t.s.take most).length ≤ t.s.length := by simp; omega
  omega
theorem tgs_ins (x : Nat × List UInt8) : ∀ l : List (Nat × List UInt8), tgsSize (insU x l) ≤ tgsSize l + (1 + x.2.length) := by
  intro l
  induction l with
  | nil => simp [insU, tgsSize]
  | cons y l ih =>
    simp only [insU]
    split
    · simp only [tgsSize]; omega
    split
    · omega
    · simp only [tgsSize]; omega
theorem tgs_fold (b : Nat) : ∀ (l acc : List (Nat × List UInt8)), tgsSize (l.foldl (fun out x => if x.1 < b then out else insU x out) acc) ≤ tgsSize acc + tgsSize l := by
  intro l
  induction l with
  | nil => intro acc; simp [tgsSize]
  | cons x l ih =>
    intro acc
    simp only [List.foldl_cons, tgsSize]
    have h := ih (if x.1 < b then acc else insU x acc)
    have h2 := tgs_ins x acc
    split at h <;> split <;> first | omega | contradiction
theorem tgs_take (n : Nat) : ∀ l : List (Nat × List UInt8), tgsSize (l.take n) ≤ tgsSize l := by
  induction n with
  | zero => intro l; simp [tgsSize]
  | succ n ih =>
    intro l
    cases l with
    | nil => simp
    | cons x l => simp only [List.take_succ_cons, tgsSize]; have := ih l; omega
theorem tgs_map (l : List (Nat × List UInt8)) : tgsSize (l.map fun x => (x.1, x.2.take most)) ≤ tgsSize l := by
  induction l with
  | nil => simp [tgsSize]
  | cons x l ih =>
    simp only [List.map_cons, tgsSize]
    have : (x.2.take most).length ≤ x.2.length := by simp; omega
    omega
theorem enc_tgs (l : List (Nat × List UInt8)) : (encTags l).length ≤ 21 * tgsSize l := by
  induction l with
  | nil => simp [encTags, tgsSize]
  | cons x l ih =>
    have h3 := uvEnc_max x.1
    have h4 := uvEnc_max x.2.length
    simp only [encTags, List.length_append, tgsSize] at *
    omega
theorem unk_cst (t : Tr) : (uvEnc (unkV t.u).length ++ encTags (unkV t.u)).length ≤ 40 * t.size := by
  have h1 := uvEnc_max (unkV t.u).length
  have h2 := enc_tgs (unkV t.u)
  have h3 := tgs_map (unkS 0 t.u)
  have h4 := tgs_fold 0 (t.u.take most) []
  have h5 := tgs_take most t.u
  have h6 := t.size_u
  have h7 : tgsSize (unkV t.u) ≤ tgsSize t.u := by
    refine Nat.le_trans h3 (Nat.le_trans h4 ?_)
    simp only [tgsSize, Nat.zero_add]; exact h5
  rw [List.length_append]
  omega
theorem trs_take (n : Nat) : ∀ l : List Tr, trsSize (l.take n) ≤ trsSize l := by
  induction n with
  | zero => intro l; simp [trsSize]
  | succ n ih =>
    intro l
    cases l with
    | nil => simp
    | cons x l => simp only [List.take_succ_cons, trsSize]; have := ih l; omega
theorem flat_trs (g : Tr → List UInt8) (b : Nat) : ∀ l : List Tr, (∀ x ∈ l, (g x).length ≤ b * x.size) → (l.map g).flatten.length ≤ b * trsSize l := by
  intro l
  induction l with
  | nil => intro _; simp
  | cons x l ih =>
    intro h
    have h1 := h x (by simp)
    have h2 := ih (fun y hy => h y (by simp [hy]))
    simp only [List.map_cons, List.flatten_cons, List.length_append, trsSize, Nat.mul_add]
    omega
mutual
theorem field_cst : ∀ (f : Fld) (v : Int) (flex : Bool) (t : Tr), (fieldB f v flex t).length ≤ Fld.cst f * t.size
  | .mk kind fr to nu tag df of sub, v, flex, t => by
    have hs := fun x => fields_cst sub v flex x
    have hp := t.size_pos
    simp only [fieldB, Fld.cst]
    split
    · have h1 := cntEnc_max flex 4 (if t.nl && mayN nu v then none else some (t.l.take most).length) (by decide)
      rw [List.length_append, Nat.add_mul]
      cases hn : (t.nl && mayN nu v)
      · rw [hn] at h1
        simp only [Bool.false_eq_true, if_false] at *
        have h2 := flat_trs (fun x => if of = 10 then fieldsB sub v flex x.l ++ (if flex then uvEnc (unkV x.u).length ++ encTags (unkV x.u) else []) else scalB of false flex x) (if of = 10 then fldsCst sub else 27) (t.l.take most) (fun x _ => by
          by_cases ho : of = 10
          · simp only [ho, if_true]
            exact hs x
          · simp only [ho, if_false]
            exact scalB_cst of false flex x)
        have h3 := trs_take most t.l
        have h5 := t.size_l
        have h4 := Nat.mul_le_mul_left (if of = 10 then fldsCst sub else 27) (show trsSize (t.l.take most) ≤ t.size by omega)
        omega
      · rw [hn] at h1
        simp only [if_true, List.length_nil] at *
        omega
    split
    · have h1 := hs t
      rw [Nat.add_mul]
      split
      · split
        · simp; omega
        · simp only [List.length_cons]; omega
      · omega
    · exact scalB_cst kind (t.nl && mayN nu v) flex t
theorem fields_cst : ∀ (fs : List Fld) (v : Int) (flex : Bool) (t : Tr), (fieldsB fs v flex t.l ++ (if flex then uvEnc (unkV t.u).length ++ encTags (unkV t.u) else [])).length ≤ fldsCst fs * t.size
  | fs, v, flex, t => by
    have h1 := fieldsOnly_cst fs v flex t.l t.size (fun x hx => by have := trsSize_mem hx; have := t.size_l; omega) t.size_pos
    have h2 := unk_cst t
    rw [List.length_append]
    cases flex
    · simp only [Bool.false_eq_true, if_false, List.length_nil] at *
      omega
    · simp only [if_true] at *
      omega
theorem fieldsOnly_cst : ∀ (fs : List Fld) (v : Int) (flex : Bool) (l : List Tr) (s : Nat), (∀ x ∈ l, x.size ≤ s) → 1 ≤ s → (fieldsB fs v flex l).length + 40 * s ≤ fldsCst fs * s
  | [], v, flex, l, s, h, hs => by simp only [fieldsB, fldsCst, List.length_nil]; omega
  | f :: fs, v, flex, l, s, h, hs => by
    have h1 := field_cst f v flex (l.headD tr0)
    have h2 := fieldsOnly_cst fs v flex l.tail s (fun x hx => h x (List.mem_of_mem_tail hx)) hs
    have h3 : (l.headD tr0).size ≤ s := by
      cases l with
      | nil => simpa [tr0, Tr.size, trsSize, tgsSize] using hs
      | cons x l => exact h x (by simp)
    have h4 := Nat.mul_le_mul_left (Fld.cst f) h3
    simp only [fieldsB, fldsCst, Nat.add_mul]
    rw [List.length_append]
    split
    · omega
    · simp only [List.length_nil]; omega
end
theorem part_cst (fs : List Fld) (v : Int) (flex : Bool) (t : Tr) : (partB fs v flex t).length ≤ fldsCst fs * t.size := fields_cst fs v flex t
end Go.Proofs.YtfimokbgggimmaaDoor.Kf
