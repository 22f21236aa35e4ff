/- The reference in plain Lean: fields, what they say, what is written of them; and that this is the wire form of a value. -/
import Derived.Test.YtfimokbgggimmaaDoorWire
namespace Go.Proofs.YtfimokbgggimmaaDoor.Kf
set_option linter.unusedVariables false
set_option linter.unusedSimpArgs false

inductive Fld
  | mk (kind : Nat) (fr to nu tag df : Int) (of : Nat) (sub : List Fld)
inductive Tr
  | mk (n : Int) (s : List UInt8) (nl : Bool) (l : List Tr) (u : List (Nat × List UInt8))

def Fld.kind : Fld → Nat | .mk k _ _ _ _ _ _ _ => k
def Fld.fr : Fld → Int | .mk _ a _ _ _ _ _ _ => a
def Fld.to : Fld → Int | .mk _ _ a _ _ _ _ _ => a
def Fld.nu : Fld → Int | .mk _ _ _ a _ _ _ _ => a
def Fld.tag : Fld → Int | .mk _ _ _ _ a _ _ _ => a
def Fld.df : Fld → Int | .mk _ _ _ _ _ a _ _ => a
def Fld.of : Fld → Nat | .mk _ _ _ _ _ _ a _ => a
def Fld.sub : Fld → List Fld | .mk _ _ _ _ _ _ _ a => a
def Tr.n : Tr → Int | .mk a _ _ _ _ => a
def Tr.s : Tr → List UInt8 | .mk _ a _ _ _ => a
def Tr.nl : Tr → Bool | .mk _ _ a _ _ => a
def Tr.l : Tr → List Tr | .mk _ _ _ a _ => a
def Tr.u : Tr → List (Nat × List UInt8) | .mk _ _ _ _ a => a

def tr0 : Tr := .mk 0 [] false [] []
def most : Nat := 32767

/-- A version has the field. -/
def hasV (fr to v : Int) : Bool := decide (fr ≤ v) && (decide (to < 0) || decide (v ≤ to))
/-- A field may be null at a version. -/
def mayN (nu v : Int) : Bool := decide (0 ≤ nu) && decide (nu ≤ v)

def kPrim : Nat → Prim
  | 0 => .bool | 1 => .i8 | 2 => .i16 | 3 => .i32 | 5 => .u16 | 6 => .f64 | 7 => .uuid | _ => .i64

/-! ### unknown tags -/

def insU (x : Nat × List UInt8) : List (Nat × List UInt8) → List (Nat × List UInt8)
  | [] => [x]
  | y :: l => if y.1 < x.1 then y :: insU x l else if y.1 = x.1 then y :: l else x :: y :: l
def unkS (least : Nat) (l : List (Nat × List UInt8)) : List (Nat × List UInt8) :=
  (l.take most).foldl (fun out x => if x.1 < least then out else insU x out) []
/-- .. with as many octets as are written. -/
def unkV (l : List (Nat × List UInt8)) : List (Nat × List UInt8) := (unkS 0 l).map fun x => (x.1, x.2.take most)

theorem insU_up (x : Nat × List UInt8) (hx : x.1 < 4294967296) : ∀ (b : Nat) (l : List (Nat × List UInt8)), b ≤ x.1 → (upTags b (l.map fun y => (y.1, y.2.take most))) → upTags b ((insU x l).map fun y => (y.1, y.2.take most)) := by
  intro b l
  induction l generalizing b with
  | nil => intro hb _; simp [insU, upTags, hx, hb, most]; omega
  | cons y l ih =>
    intro hb h
    simp only [List.map_cons, upTags] at h
    obtain ⟨h1, h2, h3, h4⟩ := h
    unfold insU
    split
    · rename_i hlt
      simp only [List.map_cons, upTags]
      exact ⟨h1, h2, h3, ih (y.1 + 1) (by omega) h4⟩
    · split
      · simp only [List.map_cons, upTags]
        exact ⟨h1, h2, h3, h4⟩
      · rename_i h5 h6
        simp only [List.map_cons, upTags]
        refine ⟨hb, hx, ?_, by omega, h2, h3, h4⟩
        simp [most]; omega

theorem unk_up_aux : ∀ (l acc : List (Nat × List UInt8)), (∀ x ∈ l, x.1 < 4294967296) → upTags 0 (acc.map fun y => (y.1, y.2.take most)) →
    upTags 0 ((l.foldl (fun out x => if x.1 < 0 then out else insU x out) acc).map fun y => (y.1, y.2.take most)) := by
  intro l
  induction l with
  | nil => intro acc _ h; exact h
  | cons x l ih =>
    intro acc hl h
    simp only [List.foldl_cons]
    refine ih _ (fun y hy => hl y (by simp [hy])) ?_
    rw [if_neg (by omega)]
    exact insU_up x (hl x (by simp)) 0 acc (by omega) h

theorem unkV_up (l : List (Nat × List UInt8)) (hl : ∀ x ∈ l, x.1 < 4294967296) : upTags 0 (unkV l) := by
  unfold unkV unkS
  exact unk_up_aux _ [] (fun x hx => hl x (List.mem_of_mem_take hx)) trivial

theorem insU_len (x : Nat × List UInt8) : ∀ l : List (Nat × List UInt8), (insU x l).length ≤ l.length + 1 := by
  intro l
  induction l with
  | nil => simp [insU]
  | cons y l ih =>
    unfold insU
    split
    · simp; omega
    · split <;> simp

theorem unk_len_aux (b : Nat) : ∀ (l acc : List (Nat × List UInt8)), (l.foldl (fun out x => if x.1 < b then out else insU x out) acc).length ≤ acc.length + l.length := by
  intro l
  induction l with
  | nil => intro acc; simp
  | cons x l ih =>
    intro acc
    simp only [List.foldl_cons, List.length_cons]
    refine Nat.le_trans (ih _) ?_
    split
    · omega
    · have := insU_len x acc; omega

theorem unkV_len (l : List (Nat × List UInt8)) : (unkV l).length ≤ most := by
  unfold unkV unkS
  have := unk_len_aux 0 (l.take most) []
  simp at this ⊢
  omega

/-! ### what is written -/

def scalB (kind : Nat) (nl flex : Bool) (t : Tr) : List UInt8 :=
  if kind = 0 then beEnc 1 (t.n % 2)
  else if kind = 7 then t.s.take 16 ++ List.replicate (16 - t.s.length) 0
  else if kind = 8 then cntEnc flex 2 (if nl then none else some (t.s.take most).length) ++ (if nl then [] else t.s.take most)
  else if kind = 9 then cntEnc flex 4 (if nl then none else some (t.s.take most).length) ++ (if nl then [] else t.s.take most)
  else beEnc (kPrim kind).n t.n
def scalW (kind : Nat) (nl flex : Bool) : W :=
  if kind = 8 then .str flex nl else if kind = 9 then .byt flex nl else .prim (kPrim kind)
def scalV (kind : Nat) (nl : Bool) (t : Tr) : Val :=
  if kind = 0 then .int (t.n % 2)
  else if kind = 7 then .bytes (some (t.s.take 16 ++ List.replicate (16 - t.s.length) 0))
  else if kind = 8 then .bytes (if nl then none else some (t.s.take most))
  else if kind = 9 then .bytes (if nl then none else some (t.s.take most))
  else .int ((kPrim kind).conv (t.n % 256 ^ (kPrim kind).n).toNat)

theorem beEnc_mod : ∀ (n : Nat) (x y : Int), x % 256 ^ n = y % 256 ^ n → beEnc n x = beEnc n y := by
  intro n
  induction n with
  | zero => intro x y _; rfl
  | succ n ih =>
    intro x y h
    have hp : (0 : Int) < 256 ^ n := Int.pow_pos (by decide)
    have e : (256 : Int) ^ (n + 1) = 256 ^ n * 256 := Int.pow_succ _ _
    rw [e] at h
    have key : ∀ z : Int, z % (256 ^ n * 256) = z % 256 ^ n + 256 ^ n * (z / 256 ^ n % 256) := by
      intro z
      have a := Int.mul_ediv_add_emod z (256 ^ n)
      have b := Int.mul_ediv_add_emod (z / 256 ^ n) 256
      have r0 : 0 ≤ z % 256 ^ n := Int.emod_nonneg _ (by omega)
      have r1 : z % 256 ^ n < 256 ^ n := Int.emod_lt_of_pos _ hp
      have q0 : 0 ≤ z / 256 ^ n % 256 := Int.emod_nonneg _ (by decide)
      have q1 : z / 256 ^ n % 256 < 256 := Int.emod_lt_of_pos _ (by decide)
      have c : z = (z % 256 ^ n + 256 ^ n * (z / 256 ^ n % 256)) + 256 ^ n * 256 * (z / 256 ^ n / 256) := by
        have d : 256 ^ n * (256 * (z / 256 ^ n / 256) + z / 256 ^ n % 256) = 256 ^ n * (z / 256 ^ n) := by rw [b]
        rw [Int.mul_add, ← Int.mul_assoc] at d
        omega
      have f := congrArg (· % ((256 : Int) ^ n * 256)) c
      simp only [Int.add_mul_emod_self_left] at f
      rw [f]
      apply Int.emod_eq_of_lt
      · have := Int.mul_nonneg (Int.le_of_lt hp) q0; omega
      · have g : 256 ^ n * (z / 256 ^ n % 256) ≤ 256 ^ n * 255 := Int.mul_le_mul_of_nonneg_left (by omega) (Int.le_of_lt hp)
        have : (256 : Int) ^ n * 256 = 256 ^ n * 255 + 256 ^ n := by rw [show (256 : Int) = 255 + 1 from rfl, Int.mul_add]; simp
        omega
    rw [key x, key y] at h
    have rx0 : 0 ≤ x % 256 ^ n := Int.emod_nonneg _ (by omega)
    have rx1 : x % 256 ^ n < 256 ^ n := Int.emod_lt_of_pos _ hp
    have ry0 : 0 ≤ y % 256 ^ n := Int.emod_nonneg _ (by omega)
    have ry1 : y % 256 ^ n < 256 ^ n := Int.emod_lt_of_pos _ hp
    have h1 : x % 256 ^ n = y % 256 ^ n := by
      have := congrArg (· % ((256 : Int) ^ n)) h
      simp only [Int.add_mul_emod_self_left] at this
      rwa [Int.emod_eq_of_lt rx0 rx1, Int.emod_eq_of_lt ry0 ry1] at this
    have h2 : x / 256 ^ n % 256 = y / 256 ^ n % 256 := by
      rw [h1] at h
      have : (256 : Int) ^ n * (x / 256 ^ n % 256) = 256 ^ n * (y / 256 ^ n % 256) := by omega
      exact Int.eq_of_mul_eq_mul_left (by omega) this
    simp only [beEnc]
    rw [ih x y h1]
    unfold byteOf
    rw [h2]

theorem conv_mod (p : Prim) (hp : p ≠ .uuid) (hb : p ≠ .bool) (x : Int) : p.conv (x % 256 ^ p.n).toNat % 256 ^ p.n = x % 256 ^ p.n ∧ p.lo ≤ p.conv (x % 256 ^ p.n).toNat ∧ p.conv (x % 256 ^ p.n).toNat < p.hi := by
  cases p <;> first | exact absurd rfl hp | exact absurd rfl hb | (simp only [Prim.n, Prim.conv, Prim.lo, Prim.hi]; (try split) <;> omega)

/-- What is written of a value of a kind is its wire form. -/
theorem scal_enc (kind : Nat) (nl flex : Bool) (p : Bool) (t : Tr) : enc (scalW kind p flex) (scalV kind nl t) = scalB kind nl flex t := by
  unfold scalW scalV scalB
  by_cases h0 : kind = 0
  · subst h0; rfl
  rw [if_neg h0, if_neg h0]
  by_cases h7 : kind = 7
  · subst h7; rfl
  rw [if_neg h7, if_neg h7]
  by_cases h8 : kind = 8
  · subst h8; cases nl <;> simp [enc]
  rw [if_neg h8, if_neg h8, if_neg h8]
  by_cases h9 : kind = 9
  · subst h9; cases nl <;> simp [enc]
  rw [if_neg h9, if_neg h9, if_neg h9]
  simp only [enc]
  have hk : kPrim kind ≠ .uuid ∧ kPrim kind ≠ .bool := by
    unfold kPrim
    split <;> first | exact absurd rfl h0 | exact absurd rfl h7 | exact ⟨by decide, by decide⟩
  exact beEnc_mod _ _ _ (conv_mod _ hk.1 hk.2 t.n).1

theorem scal_wf (kind : Nat) (nl flex p : Bool) (t : Tr) (h : nl = true → p = true) : wf (scalW kind p flex) (scalV kind nl t) := by
  unfold scalW scalV
  by_cases h0 : kind = 0
  · subst h0
    simp only [if_pos, show ¬ (0 : Nat) = 8 by decide, show ¬ (0 : Nat) = 9 by decide, if_false, wf, kPrim, Prim.lo, Prim.hi]
    exact ⟨by decide, by omega, by omega⟩
  rw [if_neg h0]
  by_cases h7 : kind = 7
  · subst h7
    simp only [if_pos, show ¬ (7 : Nat) = 8 by decide, show ¬ (7 : Nat) = 9 by decide, if_false, wf, kPrim]
    exact ⟨trivial, by simp; omega⟩
  rw [if_neg h7]
  by_cases h8 : kind = 8
  · subst h8
    cases nl
    · simp [wf, most]; omega
    · simp [wf, h rfl]
  rw [if_neg h8, if_neg h8]
  by_cases h9 : kind = 9
  · subst h9
    cases nl
    · simp [wf, most]; omega
    · simp [wf, h rfl]
  rw [if_neg h9, if_neg h9]
  have hk : kPrim kind ≠ .uuid ∧ kPrim kind ≠ .bool := by
    unfold kPrim
    split <;> first | exact absurd rfl h0 | exact absurd rfl h7 | exact ⟨by decide, by decide⟩
  have := conv_mod _ hk.1 hk.2 t.n
  exact ⟨hk.1, this.2.1, this.2.2⟩

mutual
def fieldB : Fld → Int → Bool → Tr → List UInt8
  | .mk kind _ _ nu _ _ of sub, v, flex, t =>
    if kind = 11 then
      cntEnc flex 4 (if t.nl && mayN nu v then none else some (t.l.take most).length) ++
        (if t.nl && mayN nu v then [] else ((t.l.take most).map fun x => if of = 10 then fieldsB sub v flex x.l ++ (if flex then uvEnc (unkV x.u).length ++ encTags (unkV x.u) else []) else scalB of false flex x).flatten)
    else if kind = 10 then
      if 0 ≤ nu then (if t.nl && mayN nu v then [255] else 1 :: (fieldsB sub v flex t.l ++ (if flex then uvEnc (unkV t.u).length ++ encTags (unkV t.u) else [])))
      else fieldsB sub v flex t.l ++ (if flex then uvEnc (unkV t.u).length ++ encTags (unkV t.u) else [])
    else scalB kind (t.nl && mayN nu v) flex t
def fieldsB : List Fld → Int → Bool → List Tr → List UInt8
  | [], _, _, _ => []
  | f :: fs, v, flex, l => (if hasV f.fr f.to v then fieldB f v flex (l.headD tr0) else []) ++ fieldsB fs v flex l.tail
end
def partB (fs : List Fld) (v : Int) (flex : Bool) (t : Tr) : List UInt8 := fieldsB fs v flex t.l ++ (if flex then uvEnc (unkV t.u).length ++ encTags (unkV t.u) else [])

mutual
def fieldW : Fld → Int → Bool → W
  | .mk kind _ _ nu _ _ of sub, v, flex =>
    if kind = 11 then .arr flex (mayN nu v) (mayN nu v) (if of = 10 then fieldsW sub v flex else scalW of false flex)
    else if kind = 10 then (if 0 ≤ nu then .opt (fieldsW sub v flex) else fieldsW sub v flex)
    else scalW kind (mayN nu v) flex
def fieldsW : List Fld → Int → Bool → W
  | [], _, flex => if flex then .pair .tags .unit else .unit
  | f :: fs, v, flex => if hasV f.fr f.to v then .pair (fieldW f v flex) (fieldsW fs v flex) else fieldsW fs v flex
end

mutual
def fieldV : Fld → Int → Bool → Tr → Val
  | .mk kind _ _ nu _ _ of sub, v, flex, t =>
    if kind = 11 then .list (if t.nl && mayN nu v then none else some ((t.l.take most).map fun x => if of = 10 then fieldsV sub v flex x.l x.u else scalV of false x))
    else if kind = 10 then
      if 0 ≤ nu then .opt (if t.nl && mayN nu v then none else some (fieldsV sub v flex t.l t.u))
      else fieldsV sub v flex t.l t.u
    else scalV kind (t.nl && mayN nu v) t
def fieldsV : List Fld → Int → Bool → List Tr → List (Nat × List UInt8) → Val
  | [], _, flex, _, u => if flex then .pair (.tags (unkV u)) .unit else .unit
  | f :: fs, v, flex, l, u => if hasV f.fr f.to v then .pair (fieldV f v flex (l.headD tr0)) (fieldsV fs v flex l.tail u) else fieldsV fs v flex l.tail u
end

mutual
theorem fieldB_enc : ∀ (f : Fld) (v : Int) (flex : Bool) (t : Tr), enc (fieldW f v flex) (fieldV f v flex t) = fieldB f v flex t
  | .mk kind _ _ nu _ _ of sub, v, flex, t => by
    simp only [fieldW, fieldV, fieldB]
    by_cases h11 : kind = 11
    · simp only [if_pos h11]
      cases hn : (t.nl && mayN nu v)
      · simp only [Bool.false_eq_true, if_false, enc, Option.map_some, List.length_map, Option.getD_some, List.map_map]
        congr 2
        apply List.map_congr_left
        intro x _
        by_cases h10 : of = 10
        · simp only [Function.comp, if_pos h10]
          exact fieldsB_enc sub v flex x.l x.u
        · simp only [Function.comp, if_neg h10]
          exact scal_enc _ _ _ _ _
      · simp [enc]
    · simp only [if_neg h11]
      by_cases h10 : kind = 10
      · simp only [if_pos h10]
        by_cases h0 : 0 ≤ nu
        · simp only [if_pos h0]
          cases hn : (t.nl && mayN nu v)
          · simp only [Bool.false_eq_true, if_false, enc]
            rw [fieldsB_enc sub v flex t.l t.u]
          · simp [enc]
        · simp only [if_neg h0]
          exact fieldsB_enc sub v flex t.l t.u
      · simp only [if_neg h10]
        exact scal_enc _ _ _ _ _
theorem fieldsB_enc : ∀ (fs : List Fld) (v : Int) (flex : Bool) (l : List Tr) (u : List (Nat × List UInt8)),
    enc (fieldsW fs v flex) (fieldsV fs v flex l u) = fieldsB fs v flex l ++ (if flex then uvEnc (unkV u).length ++ encTags (unkV u) else [])
  | [], v, flex, l, u => by
    cases flex <;> simp [fieldsW, fieldsV, fieldsB, enc]
  | f :: fs, v, flex, l, u => by
    simp only [fieldsW, fieldsV, fieldsB]
    split
    · simp only [enc]
      rw [fieldB_enc f v flex _, fieldsB_enc fs v flex l.tail u, List.append_assoc]
    · simp only [List.nil_append]
      exact fieldsB_enc fs v flex l.tail u
end

/-- The trees' tags have numbers of 32 bits. -/
inductive TrOk : Tr → Prop
  | mk {n s nl l u} : (∀ x ∈ u, x.1 < 4294967296) → (∀ t ∈ l, TrOk t) → TrOk (.mk n s nl l u)
theorem TrOk.l {t : Tr} (h : TrOk t) : ∀ x ∈ t.l, TrOk x := by cases h with | mk _ h => exact h
theorem TrOk.u {t : Tr} (h : TrOk t) : ∀ x ∈ t.u, x.1 < 4294967296 := by cases h with | mk h _ => exact h
theorem TrOk.zero : TrOk tr0 := .mk (by simp) (by simp)

theorem TrOk.head {l : List Tr} (h : ∀ x ∈ l, TrOk x) : TrOk (l.headD tr0) := by
  cases l with
  | nil => exact TrOk.zero
  | cons a l => exact h a (by simp)

mutual
theorem fieldV_wf : ∀ (f : Fld) (v : Int) (flex : Bool) (t : Tr), TrOk t → wf (fieldW f v flex) (fieldV f v flex t)
  | .mk kind _ _ nu _ _ of sub, v, flex, t, ht => by
    simp only [fieldW, fieldV]
    by_cases h11 : kind = 11
    · simp only [if_pos h11]
      cases hn : (t.nl && mayN nu v)
      · simp only [Bool.false_eq_true, if_false, wf, List.length_map, most]
        refine ⟨by simp; omega, ?_⟩
        intro y hy
        simp only [List.mem_map] at hy
        obtain ⟨x, hx, rfl⟩ := hy
        have hx' := ht.l x (List.mem_of_mem_take hx)
        by_cases h10 : of = 10
        · simp only [if_pos h10]
          exact fieldsV_wf sub v flex x.l x.u hx'.l hx'.u
        · simp only [if_neg h10]
          exact scal_wf _ _ _ _ _ id
      · have : mayN nu v = true := by revert hn; cases mayN nu v <;> simp
        simp [wf, this]
    · simp only [if_neg h11]
      by_cases h10 : kind = 10
      · simp only [if_pos h10]
        by_cases h0 : 0 ≤ nu
        · simp only [if_pos h0]
          cases hn : (t.nl && mayN nu v)
          · simp only [Bool.false_eq_true, if_false, wf]
            exact fieldsV_wf sub v flex t.l t.u ht.l ht.u
          · simp [wf]
        · simp only [if_neg h0]
          exact fieldsV_wf sub v flex t.l t.u ht.l ht.u
      · simp only [if_neg h10]
        exact scal_wf _ _ _ _ _ (fun h => by revert h; cases mayN nu v <;> simp)
theorem fieldsV_wf : ∀ (fs : List Fld) (v : Int) (flex : Bool) (l : List Tr) (u : List (Nat × List UInt8)), (∀ x ∈ l, TrOk x) → (∀ x ∈ u, x.1 < 4294967296) → wf (fieldsW fs v flex) (fieldsV fs v flex l u)
  | [], v, flex, l, u, _, hu => by
    cases flex
    · simp [fieldsW, fieldsV, wf]
    · simp only [fieldsW, fieldsV, if_true, wf, and_true]
      have := unkV_len u
      exact ⟨unkV_up u hu, by unfold most at this; omega⟩
  | f :: fs, v, flex, l, u, hl, hu => by
    simp only [fieldsW, fieldsV]
    split
    · exact ⟨fieldV_wf f v flex _ (TrOk.head hl), fieldsV_wf fs v flex l.tail u (fun x hx => hl x (List.mem_of_mem_tail hx)) hu⟩
    · exact fieldsV_wf fs v flex l.tail u (fun x hx => hl x (List.mem_of_mem_tail hx)) hu
end

/-! ### a form that allows more nulls writes and reads the same -/

def W.sub : W → W → Bool
  | .unit, .unit => true
  | .pair a b, .pair c d => W.sub a c && W.sub b d
  | .tags, .tags => true
  | .prim p, .prim q => decide (p = q)
  | .str c n, .str d m => (c == d) && (!n || m)
  | .byt c n, .byt d m => (c == d) && (!n || m)
  | .arr c n r e, .arr d m s f => (c == d) && (!n || m) && (!r || s) && W.sub e f
  | .opt e, .opt f => W.sub e f
  | _, _ => false

theorem W.sub_wf : ∀ (a b : W) (x : Val), W.sub a b = true → wf a x → wf b x ∧ enc b x = enc a x := by
  intro a
  induction a with
  | unit => intro b x h hx; cases b <;> simp [W.sub] at h; exact ⟨hx, rfl⟩
  | pair a c iha ihc =>
    intro b x h hx
    cases b <;> simp [W.sub] at h
    cases x <;> simp only [wf] at hx <;> try exact hx.elim
    have h1 := iha _ _ h.1 hx.1
    have h2 := ihc _ _ h.2 hx.2
    exact ⟨⟨h1.1, h2.1⟩, by simp only [enc, h1.2, h2.2]⟩
  | tags => intro b x h hx; cases b <;> simp [W.sub] at h; exact ⟨hx, rfl⟩
  | prim p => intro b x h hx; cases b <;> simp [W.sub] at h; subst h; exact ⟨hx, rfl⟩
  | str c n =>
    intro b x h hx
    cases b <;> simp [W.sub] at h
    obtain ⟨rfl, h⟩ := h
    cases x <;> simp only [wf] at hx <;> try exact hx.elim
    rename_i m o
    refine ⟨?_, rfl⟩
    cases o with
    | none =>
      rcases h with h | h
      · rw [show n = true from hx] at h; cases h
      · exact h
    | some s => exact hx
  | byt c n =>
    intro b x h hx
    cases b <;> simp [W.sub] at h
    obtain ⟨rfl, h⟩ := h
    cases x <;> simp only [wf] at hx <;> try exact hx.elim
    rename_i m o
    refine ⟨?_, rfl⟩
    cases o with
    | none =>
      rcases h with h | h
      · rw [show n = true from hx] at h; cases h
      · exact h
    | some s => exact hx
  | arr c n r e ih =>
    intro b x h hx
    cases b <;> simp [W.sub] at h
    obtain ⟨⟨⟨rfl, hn⟩, hr⟩, he⟩ := h
    cases x <;> simp only [wf] at hx <;> try exact hx.elim
    rename_i m s f o
    cases o with
    | none =>
      simp only [wf] at hx ⊢
      obtain ⟨hx1, hx2⟩ := hx
      refine ⟨⟨?_, ?_⟩, by simp [enc]⟩
      · rcases hn with hn | hn
        · rw [hx1] at hn; cases hn
        · exact hn
      · rcases hr with hr | hr
        · rw [hx2] at hr; cases hr
        · exact hr
    | some l =>
      simp only [wf] at hx ⊢
      refine ⟨⟨hx.1, fun v hv => (ih _ _ he (hx.2 v hv)).1⟩, ?_⟩
      simp only [enc, Option.getD_some]
      congr 2
      apply List.map_congr_left
      intro v hv
      exact (ih _ _ he (hx.2 v hv)).2
  | opt e ih =>
    intro b x h hx
    cases b <;> simp [W.sub] at h
    cases x <;> try exact hx.elim
    rename_i f o
    cases o with
    | none => exact ⟨trivial, rfl⟩
    | some v =>
      have := ih _ v h hx
      exact ⟨this.1, by simp only [enc, this.2]⟩

/-- What is written of a part is the wire form of its value; it is read again. -/
theorem part_dec (fs : List Fld) (v : Int) (flex : Bool) (t : Tr) (ht : TrOk t) (w : W) (hs : W.sub (fieldsW fs v flex) w = true) (hw : w.ok = true) (r : List UInt8) :
    wf w (fieldsV fs v flex t.l t.u) ∧ enc w (fieldsV fs v flex t.l t.u) = partB fs v flex t ∧ dec w (partB fs v flex t ++ r) = some (fieldsV fs v flex t.l t.u, r) := by
  have h1 := W.sub_wf _ w _ hs (fieldsV_wf fs v flex t.l t.u ht.l ht.u)
  have h2 : enc w (fieldsV fs v flex t.l t.u) = partB fs v flex t := h1.2.trans (fieldsB_enc fs v flex t.l t.u)
  refine ⟨h1.1, h2, ?_⟩
  rw [← h2]
  exact dec_enc w _ r hw h1.1
end Go.Proofs.YtfimokbgggimmaaDoor.Kf
