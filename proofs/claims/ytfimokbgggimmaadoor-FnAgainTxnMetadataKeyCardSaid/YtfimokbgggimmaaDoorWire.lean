/- The wire forms of Kafka's messages as plain data: how values are written and read, that what is written is read again, and that what is cut short is not read. -/
namespace Go.Proofs.YtfimokbgggimmaaDoor.Kf
set_option linter.unusedVariables false
set_option linter.unusedSimpArgs false

inductive Prim | bool | i8 | i16 | i32 | i64 | u16 | f64 | uuid
  deriving DecidableEq

/-- How many octets. -/
def Prim.n : Prim → Nat
  | .bool | .i8 => 1
  | .i16 | .u16 => 2
  | .i32 => 4
  | .i64 | .f64 => 8
  | .uuid => 16

/-- A number (or 16 octets) may be of the kind. -/
def Prim.lo : Prim → Int
  | .i8 => -128 | .i16 => -32768 | .i32 => -2147483648 | .i64 => -9223372036854775808
  | _ => 0
def Prim.hi : Prim → Int
  | .bool => 2 | .i8 => 128 | .i16 => 32768 | .i32 => 2147483648 | .i64 => 9223372036854775808
  | .u16 => 65536 | .f64 => 18446744073709551616 | .uuid => 0

inductive Val
  | unit
  | pair (a b : Val)
  | tags (l : List (Nat × List UInt8))
  | int (n : Int)
  | bytes (o : Option (List UInt8))
  | list (o : Option (List Val))
  | opt (o : Option Val)

inductive W
  | unit
  | pair (a b : W)
  | tags
  | prim (p : Prim)
  | str (c nl : Bool)
  | byt (c nl : Bool)
  | arr (c nl nr : Bool) (e : W)
  | opt (e : W)
  deriving DecidableEq

def byteOf (z : Int) : UInt8 := UInt8.ofNat (z % 256).toNat

/-- So many octets of a number, the highest first. -/
def beEnc : Nat → Int → List UInt8
  | 0, _ => []
  | n + 1, x => byteOf (x / 256 ^ n) :: beEnc n x

def beDec : List UInt8 → Nat
  | [] => 0
  | b :: l => b.toNat * 256 ^ l.length + beDec l

theorem beEnc_length (n : Nat) (x : Int) : (beEnc n x).length = n := by
  induction n with
  | zero => rfl
  | succ n ih => simp [beEnc, ih]

theorem byteOf_toNat (z : Int) : ((byteOf z).toNat : Int) = z % 256 := by
  unfold byteOf
  have h0 : 0 ≤ z % 256 := Int.emod_nonneg _ (by decide)
  have h1 : z % 256 < 256 := Int.emod_lt_of_pos _ (by decide)
  rw [UInt8.toNat_ofNat']
  omega

theorem beDec_lt (l : List UInt8) : beDec l < 256 ^ l.length := by
  induction l with
  | nil => simp [beDec]
  | cons b l ih =>
    simp only [beDec, List.length_cons, Nat.pow_succ]
    have hb : b.toNat < 256 := b.toNat_lt
    have : b.toNat * 256 ^ l.length ≤ 255 * 256 ^ l.length := Nat.mul_le_mul_right _ (by omega)
    omega

theorem beDec_beEnc (n : Nat) (x : Int) : (beDec (beEnc n x) : Int) = x % 256 ^ n := by
  induction n with
  | zero => simp [beEnc, beDec, Int.emod_one]
  | succ n ih =>
    simp only [beEnc, beDec, beEnc_length, Int.natCast_add, Int.natCast_mul, ih, byteOf_toNat, Int.natCast_pow]
    have hp : (0 : Int) < 256 ^ n := Int.pow_pos (by decide)
    have h1 := Int.mul_ediv_add_emod x (256 ^ n)
    have h2 := Int.mul_ediv_add_emod (x / 256 ^ n) 256
    have e : (256 : Int) ^ (n + 1) = 256 ^ n * 256 := Int.pow_succ _ _
    have hr0 : 0 ≤ x % 256 ^ n := Int.emod_nonneg _ (by omega)
    have hr1 : x % 256 ^ n < 256 ^ n := Int.emod_lt_of_pos _ hp
    have hq0 : 0 ≤ x / 256 ^ n % 256 := Int.emod_nonneg _ (by decide)
    have hq1 : x / 256 ^ n % 256 < 256 := Int.emod_lt_of_pos _ (by decide)
    have key : x = (x / 256 ^ n % 256 * 256 ^ n + x % 256 ^ n) + 256 ^ (n + 1) * (x / 256 ^ n / 256) := by
      rw [e]
      have : 256 ^ n * 256 * (x / 256 ^ n / 256) + x / 256 ^ n % 256 * 256 ^ n = 256 ^ n * (256 * (x / 256 ^ n / 256) + x / 256 ^ n % 256) := by
        rw [Int.mul_add, Int.mul_assoc, Int.mul_comm (x / 256 ^ n % 256)]
      rw [h2] at this
      omega
    have hs0 : 0 ≤ x / 256 ^ n % 256 * 256 ^ n + x % 256 ^ n := by
      have := Int.mul_nonneg hq0 (Int.le_of_lt hp); omega
    have hs1 : x / 256 ^ n % 256 * 256 ^ n + x % 256 ^ n < 256 ^ (n + 1) := by
      rw [e]
      have : x / 256 ^ n % 256 * 256 ^ n ≤ 255 * 256 ^ n := Int.mul_le_mul_of_nonneg_right (by omega) (Int.le_of_lt hp)
      omega
    have := congrArg (· % ((256 : Int) ^ (n + 1))) key
    simp only [Int.add_mul_emod_self_left] at this
    rw [this, Int.emod_eq_of_lt hs0 hs1]; rfl

/-- The number that octets say, as a number of the kind. -/
def Prim.conv (p : Prim) (m : Nat) : Int :=
  match p with
  | .bool => if m = 0 then 0 else 1
  | .i8 => if m < 128 then m else (m : Int) - 256
  | .i16 => if m < 32768 then m else (m : Int) - 65536
  | .i32 => if m < 2147483648 then m else (m : Int) - 4294967296
  | .i64 => if m < 9223372036854775808 then m else (m : Int) - 18446744073709551616
  | _ => m

/-! ### groups of seven bits -/

def uvEncF : Nat → Nat → List UInt8
  | 0, _ => []
  | k + 1, n => if n < 128 then [UInt8.ofNat n] else UInt8.ofNat (n % 128 + 128) :: uvEncF k (n / 128)
/-- A number below 2^64 in groups of seven bits. -/
def uvEnc (n : Nat) : List UInt8 := uvEncF 10 n

def uvDecF : Nat → Nat → List UInt8 → Option (Nat × List UInt8)
  | _, _, [] => none
  | 0, m, b :: r => if b.toNat < 16 then some (b.toNat * m, r) else none
  | k + 1, m, b :: r =>
    if b.toNat < 128 then some (b.toNat * m, r)
    else (uvDecF k (m * 128) r).map fun x => ((b.toNat - 128) * m + x.1, x.2)
/-- As the package reads a number of 32 bits: five groups at most. -/
def uvDec (l : List UInt8) : Option (Nat × List UInt8) := uvDecF 4 1 l

theorem uvDecF_ext (k : Nat) : ∀ (m : Nat) (l s : List UInt8) (x : Nat) (r : List UInt8), uvDecF k m l = some (x, r) → uvDecF k m (l ++ s) = some (x, r ++ s) := by
  induction k with
  | zero =>
    intro m l s x r h
    cases l with
    | nil => simp [uvDecF] at h
    | cons b l =>
      simp only [uvDecF, List.cons_append] at h ⊢
      split at h
      · rename_i hb; rw [if_pos hb]; simp at h; obtain ⟨rfl, rfl⟩ := h; rfl
      · cases h
  | succ k ih =>
    intro m l s x r h
    cases l with
    | nil => simp [uvDecF] at h
    | cons b l =>
      simp only [uvDecF, List.cons_append] at h ⊢
      split at h
      · rename_i hb; rw [if_pos hb]; simp at h; obtain ⟨rfl, rfl⟩ := h; rfl
      · rename_i hb
        rw [if_neg hb]
        cases hd : uvDecF k (m * 128) l with
        | none => rw [hd] at h; cases h
        | some y =>
          obtain ⟨y, r'⟩ := y
          rw [hd] at h
          simp at h
          obtain ⟨rfl, rfl⟩ := h
          rw [ih _ _ s _ _ hd]; rfl

theorem uvDecF_len (k : Nat) : ∀ (m : Nat) (l : List UInt8) (x : Nat) (r : List UInt8), uvDecF k m l = some (x, r) → r.length < l.length := by
  induction k with
  | zero =>
    intro m l x r h
    cases l with
    | nil => simp [uvDecF] at h
    | cons b l =>
      simp only [uvDecF] at h
      split at h
      · simp at h; obtain ⟨_, rfl⟩ := h; simp
      · cases h
  | succ k ih =>
    intro m l x r h
    cases l with
    | nil => simp [uvDecF] at h
    | cons b l =>
      simp only [uvDecF] at h
      split at h
      · simp at h; obtain ⟨_, rfl⟩ := h; simp
      · cases hd : uvDecF k (m * 128) l with
        | none => rw [hd] at h; cases h
        | some y =>
          obtain ⟨y, r'⟩ := y
          rw [hd] at h
          simp at h
          obtain ⟨_, rfl⟩ := h
          have := ih _ _ _ _ hd
          simp; omega

/-- The number that is read is below m times 2^(7k+4). -/
theorem uvDecF_lt (k : Nat) : ∀ (m : Nat) (l : List UInt8) (x : Nat) (r : List UInt8), 0 < m → uvDecF k m l = some (x, r) → x < m * (128 ^ k * 16) := by
  induction k with
  | zero =>
    intro m l x r hm h
    cases l with
    | nil => simp [uvDecF] at h
    | cons b l =>
      simp only [uvDecF] at h
      split at h
      · rename_i hb
        simp at h; obtain ⟨rfl, _⟩ := h
        rw [Nat.mul_comm]
        simp only [Nat.pow_zero, Nat.one_mul]
        exact Nat.mul_lt_mul_of_pos_left hb hm
      · cases h
  | succ k ih =>
    intro m l x r hm h
    have hK : 0 < 128 ^ k := Nat.pow_pos (by decide)
    cases l with
    | nil => simp [uvDecF] at h
    | cons b l =>
      simp only [uvDecF] at h
      split at h
      · rename_i hb
        simp at h; obtain ⟨rfl, _⟩ := h
        rw [Nat.mul_comm]
        refine Nat.mul_lt_mul_of_pos_left ?_ hm
        rw [Nat.pow_succ]; omega
      · cases hd : uvDecF k (m * 128) l with
        | none => rw [hd] at h; cases h
        | some y =>
          obtain ⟨y, r'⟩ := y
          rw [hd] at h
          simp at h
          obtain ⟨rfl, _⟩ := h
          have h1 := ih (m * 128) l y r' (by omega) hd
          have hb : b.toNat < 256 := b.toNat_lt
          have h2 : (b.toNat - 128) * m ≤ 127 * m := Nat.mul_le_mul_right _ (by omega)
          -- y < m*128*(128^k*16) and its residue modulo m*128 leaves room: y is a multiple of m*128
          have h3 : ∀ (k m : Nat) (l : List UInt8) (x : Nat) (r : List UInt8), uvDecF k m l = some (x, r) → m ∣ x := by
            intro k
            induction k with
            | zero =>
              intro m l x r h
              cases l with
              | nil => simp [uvDecF] at h
              | cons b l =>
                simp only [uvDecF] at h
                split at h
                · simp at h; obtain ⟨rfl, _⟩ := h; exact Nat.dvd_mul_left _ _
                · cases h
            | succ k ih =>
              intro m l x r h
              cases l with
              | nil => simp [uvDecF] at h
              | cons b l =>
                simp only [uvDecF] at h
                split at h
                · simp at h; obtain ⟨rfl, _⟩ := h; exact Nat.dvd_mul_left _ _
                · cases hd : uvDecF k (m * 128) l with
                  | none => rw [hd] at h; cases h
                  | some y =>
                    obtain ⟨y, r'⟩ := y
                    rw [hd] at h
                    simp at h
                    obtain ⟨rfl, _⟩ := h
                    exact Nat.dvd_add (Nat.dvd_mul_left _ _) (Nat.dvd_trans (Nat.dvd_mul_right _ _) (ih _ _ _ _ hd))
          obtain ⟨q, rfl⟩ := h3 _ _ _ _ _ hd
          have h4 : q < 128 ^ k * 16 := Nat.lt_of_mul_lt_mul_left h1
          have h5 : m * 128 * (q + 1) ≤ m * 128 * (128 ^ k * 16) := Nat.mul_le_mul_left _ h4
          rw [Nat.mul_add, Nat.mul_one] at h5
          have h6 : m * (128 ^ (k + 1) * 16) = m * 128 * (128 ^ k * 16) := by
            rw [Nat.pow_succ, Nat.mul_comm (128 ^ k) 128, Nat.mul_assoc, Nat.mul_assoc]
          rw [h6]
          omega

theorem uvDec_lt {l : List UInt8} {x : Nat} {r : List UInt8} (h : uvDec l = some (x, r)) : x < 4294967296 := by
  have := uvDecF_lt 4 1 l x r (by decide) h
  omega

theorem uvDec_ext {l s : List UInt8} {x : Nat} {r : List UInt8} (h : uvDec l = some (x, r)) : uvDec (l ++ s) = some (x, r ++ s) := uvDecF_ext _ _ _ _ _ _ h
theorem uvDec_len {l : List UInt8} {x : Nat} {r : List UInt8} (h : uvDec l = some (x, r)) : r.length < l.length := uvDecF_len _ _ _ _ _ h

theorem uvDecF_uvEncF (k : Nat) : ∀ (m n j : Nat) (r : List UInt8), n < 128 ^ k * 16 → k < j → uvDecF k m (uvEncF j n ++ r) = some (n * m, r) := by
  induction k with
  | zero =>
    intro m n j r hn hj
    obtain ⟨j, rfl⟩ : ∃ i, j = i + 1 := ⟨j - 1, by omega⟩
    have hn' : n < 16 := by simpa using hn
    simp only [uvEncF]
    rw [if_pos (by omega)]
    simp only [List.cons_append, List.nil_append, uvDecF, UInt8.toNat_ofNat']
    rw [Nat.mod_eq_of_lt (by omega), if_pos hn']
  | succ k ih =>
    intro m n j r hn hj
    obtain ⟨j, rfl⟩ : ∃ i, j = i + 1 := ⟨j - 1, by omega⟩
    simp only [uvEncF]
    split
    · rename_i h
      simp only [List.cons_append, List.nil_append, uvDecF, UInt8.toNat_ofNat']
      rw [Nat.mod_eq_of_lt (by omega), if_pos h]
    · rename_i h
      simp only [List.cons_append, uvDecF, UInt8.toNat_ofNat']
      rw [Nat.mod_eq_of_lt (a := n % 128 + 128) (by omega), if_neg (by omega)]
      have hq : n / 128 < 128 ^ k * 16 := by
        rw [Nat.pow_succ] at hn
        exact Nat.div_lt_of_lt_mul (by rw [← Nat.mul_assoc, Nat.mul_comm 128]; exact hn)
      rw [ih _ _ _ _ hq (by omega)]
      simp only [Option.map_some, Nat.add_sub_cancel, Option.some.injEq, Prod.mk.injEq, and_true]
      have := Nat.div_add_mod n 128
      calc n % 128 * m + n / 128 * (m * 128) = (128 * (n / 128) + n % 128) * m := by rw [Nat.add_mul, Nat.mul_comm m 128, ← Nat.mul_assoc, Nat.mul_comm (n / 128) 128, Nat.add_comm]
        _ = n * m := by rw [this]

theorem uvDec_uvEnc {n : Nat} (h : n < 4294967296) (r : List UInt8) : uvDec (uvEnc n ++ r) = some (n, r) := by
  have := uvDecF_uvEncF 4 1 n 10 r (by omega) (by omega)
  simpa [uvDec, uvEnc] using this

theorem uvEnc_pos (n : Nat) : 0 < (uvEnc n).length := by
  unfold uvEnc; simp only [uvEncF]; split <;> simp

/-! ### tags -/

/-- A tag set: the last one counts; by rising numbers. -/
def tset (k : Nat) (v : List UInt8) : List (Nat × List UInt8) → List (Nat × List UInt8)
  | [] => [(k, v)]
  | (j, u) :: l => if k < j then (k, v) :: (j, u) :: l else if k = j then (k, v) :: l else (j, u) :: tset k v l

def encTags : List (Nat × List UInt8) → List UInt8
  | [] => []
  | (k, v) :: l => uvEnc k ++ (uvEnc v.length ++ (v ++ encTags l))

/-- So many tags are read, set into what is there. -/
def decTags : Nat → List (Nat × List UInt8) → List UInt8 → Option (List (Nat × List UInt8) × List UInt8)
  | 0, acc, l => some (acc, l)
  | n + 1, acc, l =>
    match uvDec l with
    | none => none
    | some (k, l) =>
      match uvDec l with
      | none => none
      | some (m, l) => if l.length < m then none else decTags n (tset k (l.take m) acc) (l.drop m)

/-- Rising numbers, all above b; numbers and lengths of 32 bits. -/
def upTags : Nat → List (Nat × List UInt8) → Prop
  | _, [] => True
  | b, (k, v) :: l => b ≤ k ∧ k < 4294967296 ∧ v.length < 4294967296 ∧ upTags (k + 1) l

theorem upTags_mono {b c : Nat} (h : b ≤ c) {l : List (Nat × List UInt8)} (hl : upTags c l) : upTags b l := by
  cases l with
  | nil => trivial
  | cons x l => obtain ⟨k, v⟩ := x; exact ⟨by have := hl.1; omega, hl.2⟩

theorem upTags_tset (k : Nat) (v : List UInt8) (hk : k < 4294967296) (hv : v.length < 4294967296) : ∀ (l : List (Nat × List UInt8)) (b : Nat), upTags b l → upTags (min b k) (tset k v l) := by
  intro l
  induction l with
  | nil => intro b _; exact ⟨by omega, hk, hv, trivial⟩
  | cons x l ih =>
    intro b h
    obtain ⟨j, u⟩ := x
    obtain ⟨h1, h2, h3, h4⟩ := h
    unfold tset
    split
    · exact ⟨by omega, hk, hv, by omega, h2, h3, h4⟩
    · split
      · rename_i hj; subst hj; exact ⟨by omega, hk, hv, h4⟩
      · exact ⟨by omega, h2, h3, upTags_mono (by omega) (ih (j + 1) h4)⟩

theorem decTags_up (n : Nat) : ∀ (acc : List (Nat × List UInt8)) (l : List UInt8) (x : List (Nat × List UInt8)) (r : List UInt8), upTags 0 acc → decTags n acc l = some (x, r) → upTags 0 x := by
  induction n with
  | zero => intro acc l x r h e; simp [decTags] at e; obtain ⟨rfl, _⟩ := e; exact h
  | succ n ih =>
    intro acc l x r h e
    simp only [decTags] at e
    split at e
    · cases e
    · rename_i k l1 hk
      split at e
      · cases e
      · rename_i m l2 hm
        split at e
        · cases e
        · rename_i hlen
          refine ih _ _ _ _ ?_ e
          have := upTags_tset k (l2.take m) (uvDec_lt hk) (by have := uvDec_lt hm; simp; omega) acc 0 h
          simpa using this

theorem decTags_ext (n : Nat) : ∀ (acc : List (Nat × List UInt8)) (l s : List UInt8) (x : List (Nat × List UInt8)) (r : List UInt8), decTags n acc l = some (x, r) → decTags n acc (l ++ s) = some (x, r ++ s) := by
  induction n with
  | zero => intro acc l s x r e; simp [decTags] at e ⊢; obtain ⟨rfl, rfl⟩ := e; exact ⟨rfl, rfl⟩
  | succ n ih =>
    intro acc l s x r e
    simp only [decTags] at e ⊢
    split at e
    · cases e
    · rename_i k l1 hk
      rw [uvDec_ext hk]
      simp only
      split at e
      · cases e
      · rename_i m l2 hm
        rw [uvDec_ext hm]
        simp only
        split at e
        · cases e
        · rename_i hlen
          rw [if_neg (by simp; omega), List.take_append_of_le_length (by omega), List.drop_append_of_le_length (by omega)]
          exact ih _ _ _ _ _ e

theorem decTags_len (n : Nat) : ∀ (acc : List (Nat × List UInt8)) (l : List UInt8) (x : List (Nat × List UInt8)) (r : List UInt8), decTags n acc l = some (x, r) → r.length ≤ l.length := by
  induction n with
  | zero => intro acc l x r e; simp [decTags] at e; obtain ⟨_, rfl⟩ := e; exact Nat.le_refl _
  | succ n ih =>
    intro acc l x r e
    simp only [decTags] at e
    split at e
    · cases e
    · rename_i k l1 hk
      split at e
      · cases e
      · rename_i m l2 hm
        split at e
        · cases e
        · have h1 := ih _ _ _ _ e
          have h2 := uvDec_len hk
          have h3 := uvDec_len hm
          simp at h1; omega

/-- All numbers below b. -/
def belowTags (b : Nat) (l : List (Nat × List UInt8)) : Prop := ∀ x ∈ l, x.1 < b

theorem tset_last (k : Nat) (v : List UInt8) : ∀ (l : List (Nat × List UInt8)), belowTags k l → tset k v l = l ++ [(k, v)] := by
  intro l
  induction l with
  | nil => intro _; rfl
  | cons x l ih =>
    intro h
    obtain ⟨j, u⟩ := x
    have hj : j < k := h (j, u) (by simp)
    unfold tset
    rw [if_neg (by omega), if_neg (by omega), ih (fun x hx => h x (by simp [hx]))]
    rfl

theorem decTags_encTags (l : List (Nat × List UInt8)) : ∀ (acc : List (Nat × List UInt8)) (b : Nat) (r : List UInt8), belowTags b acc → upTags b l → decTags l.length acc (encTags l ++ r) = some (acc ++ l, r) := by
  induction l with
  | nil => intro acc b r _ _; simp [decTags, encTags]
  | cons x l ih =>
    intro acc b r hacc hl
    obtain ⟨k, v⟩ := x
    obtain ⟨h1, h2, h3, h4⟩ := hl
    simp only [encTags, List.length_cons, List.append_assoc, decTags]
    rw [uvDec_uvEnc h2]
    simp only
    rw [uvDec_uvEnc h3]
    simp only
    rw [if_neg (by simp), List.take_left' rfl, List.drop_left' rfl, tset_last k v acc (fun x hx => by have := hacc x hx; omega), ih _ (k + 1) r ?_ h4]
    · simp
    · intro x hx
      simp at hx
      rcases hx with hx | rfl
      · have := hacc x hx; omega
      · simp

/-! ### the forms -/

/-- A count ahead of a list: what the package makes of it (at most what is left, else not read). -/
def lenDec (c : Bool) (l : List UInt8) : Option (Int × List UInt8) :=
  if c then
    match uvDec l with
    | none => none
    | some (u, l) =>
      let r : Int := if u ≤ 2147483648 then (u : Int) - 1 else (u : Int) - 4294967296 - 1
      if (l.length : Int) < r then none else some (r, l)
  else
    if l.length < 4 then none
    else
      let r := Prim.i32.conv (beDec (l.take 4))
      if ((l.drop 4).length : Int) < r then none else some (r, l.drop 4)

/-- A count ahead of octets: of a text (two octets), of octets (four), or in groups. -/
def cntDec (c : Bool) (p : Prim) (l : List UInt8) : Option (Int × List UInt8) :=
  if c then (uvDec l).map fun x => ((x.1 : Int) - 1, x.2)
  else if l.length < p.n then none else some (p.conv (beDec (l.take p.n)), l.drop p.n)

def spanDec (n : Int) (l : List UInt8) : Option (Val × List UInt8) :=
  if n < 0 ∨ (l.length : Int) < n then none else some (.bytes (some (l.take n.toNat)), l.drop n.toNat)

def primDec (p : Prim) (l : List UInt8) : Option (Val × List UInt8) :=
  if l.length < p.n then none
  else if p = .uuid then some (.bytes (some (l.take 16)), l.drop 16)
  else some (.int (p.conv (beDec (l.take p.n))), l.drop p.n)

def strDec (c nl : Bool) (l : List UInt8) : Option (Val × List UInt8) :=
  match cntDec c .i16 l with
  | none => none
  | some (n, l) => if n < 0 ∧ nl = true then some (.bytes none, l) else spanDec n l

def bytDec (c nl : Bool) (l : List UInt8) : Option (Val × List UInt8) :=
  match cntDec c .i32 l with
  | none => none
  | some (n, l) =>
    if nl = true then (if n < 0 then some (.bytes none, l) else spanDec n l)
    else if n = -1 then some (.bytes (some []), l) else spanDec n l

def listDec (f : List UInt8 → Option (Val × List UInt8)) : Nat → List UInt8 → Option (List Val × List UInt8)
  | 0, l => some ([], l)
  | n + 1, l =>
    match f l with
    | none => none
    | some (v, l) =>
      match listDec f n l with
      | none => none
      | some (vs, l) => some (v :: vs, l)

def dec : W → List UInt8 → Option (Val × List UInt8)
  | .unit, l => some (.unit, l)
  | .pair a b, l =>
    match dec a l with
    | none => none
    | some (x, l) =>
      match dec b l with
      | none => none
      | some (y, l) => some (.pair x y, l)
  | .tags, l =>
    match uvDec l with
    | none => none
    | some (n, l) =>
      match decTags n [] l with
      | none => none
      | some (t, l) => some (.tags t, l)
  | .prim p, l => primDec p l
  | .str c nl, l => strDec c nl l
  | .byt c nl, l => bytDec c nl l
  | .arr c nl nr e, l =>
    match lenDec c l with
    | none => none
    | some (n, l) =>
      if n < 0 ∧ nl = true ∧ nr = true then some (.list none, l)
      else
        match listDec (dec e) n.toNat l with
        | none => none
        | some (vs, l) => some (.list (some vs), l)
  | .opt e, l =>
    match l with
    | [] => none
    | b :: l =>
      if b = 255 then some (.opt none, l)
      else
        match dec e l with
        | none => none
        | some (v, l) => some (.opt (some v), l)

def cntEnc (c : Bool) (n : Nat) (o : Option Nat) : List UInt8 :=
  match c, o with
  | true, none => [0]
  | true, some k => uvEnc (k + 1)
  | false, none => beEnc n (-1)
  | false, some k => beEnc n k

def enc : W → Val → List UInt8
  | .unit, _ => []
  | .pair a b, .pair x y => enc a x ++ enc b y
  | .tags, .tags l => uvEnc l.length ++ encTags l
  | .prim p, .int n => beEnc p.n n
  | .prim _, .bytes (some s) => s
  | .str c _, .bytes o => cntEnc c 2 (o.map List.length) ++ o.getD []
  | .byt c _, .bytes o => cntEnc c 4 (o.map List.length) ++ o.getD []
  | .arr c _ _ e, .list o => cntEnc c 4 (o.map List.length) ++ ((o.getD []).map (enc e)).flatten
  | .opt _, .opt none => [255]
  | .opt e, .opt (some v) => 1 :: enc e v
  | _, _ => []

/-- A value may be of the form. -/
def wf : W → Val → Prop
  | .unit, v => v = .unit
  | .pair a b, .pair x y => wf a x ∧ wf b y
  | .tags, .tags l => upTags 0 l ∧ l.length < 4294967296
  | .prim p, .int n => p ≠ .uuid ∧ p.lo ≤ n ∧ n < p.hi
  | .prim p, .bytes (some s) => p = .uuid ∧ s.length = 16
  | .str _ nl, .bytes o => match o with | none => nl = true | some s => s.length ≤ 32767
  | .byt _ nl, .bytes o => match o with | none => nl = true | some s => s.length ≤ 2147483646
  | .arr _ nl nr e, .list o => match o with | none => nl = true ∧ nr = true | some l => l.length ≤ 2147483646 ∧ ∀ v ∈ l, wf e v
  | .opt _, .opt none => True
  | .opt e, .opt (some v) => wf e v
  | _, _ => False

/-- At least one octet is written. -/
def W.pos : W → Bool
  | .unit => false
  | .pair a b => a.pos || b.pos
  | _ => true

/-- The things of every list are written with at least one octet. -/
def W.ok : W → Bool
  | .pair a b => a.ok && b.ok
  | .arr _ _ _ e => e.pos && e.ok
  | .opt e => e.ok
  | _ => true

theorem cntEnc_pos (c : Bool) (n : Nat) (o : Option Nat) (hn : 0 < n) : 0 < (cntEnc c n o).length := by
  cases c <;> cases o <;> simp [cntEnc, beEnc_length, uvEnc_pos, hn]

theorem enc_pos : ∀ (w : W) (v : Val), w.pos = true → wf w v → 0 < (enc w v).length := by
  intro w
  induction w with
  | unit => intro v h; simp [W.pos] at h
  | pair a b iha ihb =>
    intro v h hv
    cases v <;> simp only [wf] at hv <;> try exact hv.elim
    rename_i x y
    simp only [W.pos, Bool.or_eq_true] at h
    simp only [enc, List.length_append]
    rcases h with h | h
    · have := iha x h hv.1; omega
    · have := ihb y h hv.2; omega
  | tags =>
    intro v _ hv
    cases v <;> simp only [wf] at hv <;> try exact hv.elim
    simp only [enc, List.length_append]
    have := uvEnc_pos
    rename_i l
    have := this l.length
    omega
  | prim p =>
    intro v _ hv
    cases v with
    | int n => simp only [enc, beEnc_length]; cases p <;> decide
    | bytes o =>
      cases o with
      | none => exact hv.elim
      | some s => simp only [wf] at hv; simp only [enc]; omega
    | _ => exact hv.elim
  | str c nl =>
    intro v _ hv
    cases v <;> simp only [wf] at hv <;> try exact hv.elim
    simp only [enc, List.length_append]
    rename_i o
    have := cntEnc_pos c 2 (o.map List.length) (by decide)
    omega
  | byt c nl =>
    intro v _ hv
    cases v <;> simp only [wf] at hv <;> try exact hv.elim
    simp only [enc, List.length_append]
    rename_i o
    have := cntEnc_pos c 4 (o.map List.length) (by decide)
    omega
  | arr c nl nr e ih =>
    intro v _ hv
    cases v <;> simp only [wf] at hv <;> try exact hv.elim
    simp only [enc, List.length_append]
    rename_i o
    have := cntEnc_pos c 4 (o.map List.length) (by decide)
    omega
  | opt e ih =>
    intro v _ hv
    cases v with
    | opt o => cases o <;> simp [enc]
    | _ => exact hv.elim

theorem conv_enc (p : Prim) (n : Int) (hp : p ≠ .uuid) (h0 : p.lo ≤ n) (h1 : n < p.hi) : p.conv (beDec (beEnc p.n n)) = n := by
  have h := beDec_beEnc p.n n
  cases p <;> simp only [Prim.lo, Prim.hi, Prim.n, Prim.conv] at * <;> (try exact absurd rfl hp) <;> omega

theorem primDec_enc (p : Prim) (n : Int) (r : List UInt8) (hp : p ≠ .uuid) (h0 : p.lo ≤ n) (h1 : n < p.hi) : primDec p (beEnc p.n n ++ r) = some (.int n, r) := by
  have hl := beEnc_length p.n n
  unfold primDec
  rw [if_neg (by simp [hl]), if_neg hp, List.take_left' hl, List.drop_left' hl, conv_enc p n hp h0 h1]

theorem cntDec_none (c : Bool) (p : Prim) (hp : p = .i16 ∨ p = .i32) (r : List UInt8) : cntDec c p (cntEnc c p.n none ++ r) = some (-1, r) := by
  cases c with
  | true => simp [cntDec, cntEnc, uvDec, uvDecF]
  | false =>
    have hl := beEnc_length p.n (-1)
    rw [show cntEnc false p.n none = beEnc p.n (-1) from rfl]
    simp only [cntDec, Bool.false_eq_true, if_false]
    rw [if_neg (by simp [hl]), List.take_left' hl, List.drop_left' hl, conv_enc p (-1) (by rcases hp with rfl | rfl <;> decide) (by rcases hp with rfl | rfl <;> decide) (by rcases hp with rfl | rfl <;> decide)]

theorem cntDec_some (c : Bool) (p : Prim) (hp : p = .i16 ∨ p = .i32) (k : Nat) (hk : (k : Int) < p.hi) (hk2 : k < 4294967295) (r : List UInt8) : cntDec c p (cntEnc c p.n (some k) ++ r) = some ((k : Int), r) := by
  cases c with
  | true =>
    simp only [cntDec, cntEnc, if_true]
    rw [uvDec_uvEnc (by omega)]
    simp
  | false =>
    have hl := beEnc_length p.n k
    rw [show cntEnc false p.n (some k) = beEnc p.n k from rfl]
    simp only [cntDec, Bool.false_eq_true, if_false]
    rw [if_neg (by simp [hl]), List.take_left' hl, List.drop_left' hl, conv_enc p k (by rcases hp with rfl | rfl <;> decide) (by rcases hp with rfl | rfl <;> simp [Prim.lo] <;> omega) hk]

theorem spanDec_some (s r : List UInt8) : spanDec s.length (s ++ r) = some (.bytes (some s), r) := by
  unfold spanDec
  rw [if_neg (by simp; omega)]
  simp [List.take_left', List.drop_left']

theorem lenDec_none (c : Bool) (r : List UInt8) : lenDec c (cntEnc c 4 none ++ r) = some (-1, r) := by
  cases c with
  | true =>
    simp only [lenDec, cntEnc, if_true]
    have : uvDec ([0] ++ r) = some (0, r) := by simp [uvDec, uvDecF]
    rw [this]
    simp only [Nat.zero_le, if_true]
    rw [if_neg (by omega)]
    rfl
  | false =>
    have hl := beEnc_length 4 (-1)
    rw [show cntEnc false 4 none = beEnc 4 (-1) from rfl]
    simp only [lenDec, Bool.false_eq_true, if_false]
    rw [if_neg (by simp [hl]), List.take_left' hl, List.drop_left' hl]
    rw [show Prim.conv .i32 (beDec (beEnc 4 (-1))) = -1 from conv_enc .i32 (-1) (by decide) (by decide) (by decide)]
    rw [if_neg (by omega)]

theorem lenDec_some (c : Bool) (k : Nat) (hk : k ≤ 2147483646) (r : List UInt8) (hr : k ≤ r.length) : lenDec c (cntEnc c 4 (some k) ++ r) = some ((k : Int), r) := by
  cases c with
  | true =>
    simp only [lenDec, cntEnc, if_true]
    rw [uvDec_uvEnc (by omega)]
    simp only
    have e : (if k + 1 ≤ 2147483648 then ((k + 1 : Nat) : Int) - 1 else ((k + 1 : Nat) : Int) - 4294967296 - 1) = (k : Int) := by
      rw [if_pos (by omega)]; omega
    rw [e, if_neg (by omega)]
  | false =>
    have hl := beEnc_length 4 k
    rw [show cntEnc false 4 (some k) = beEnc 4 k from rfl]
    simp only [lenDec, Bool.false_eq_true, if_false]
    rw [if_neg (by simp [hl]), List.take_left' hl, List.drop_left' hl]
    rw [show Prim.conv .i32 (beDec (beEnc 4 k)) = k from conv_enc .i32 k (by decide) (by simp only [Prim.lo]; omega) (by simp only [Prim.hi]; omega)]
    rw [if_neg (by omega)]

theorem flatten_len (e : W) (he : e.pos = true) : ∀ (l : List Val), (∀ v ∈ l, wf e v) → l.length ≤ ((l.map (enc e)).flatten).length := by
  intro l
  induction l with
  | nil => intro _; simp
  | cons v l ih =>
    intro h
    have h1 := enc_pos e v he (h v (by simp))
    have h2 := ih (fun v hv => h v (by simp [hv]))
    simp only [List.map_cons, List.flatten_cons, List.length_append, List.length_cons]
    omega

theorem listDec_enc (e : W) (hd : ∀ v r, wf e v → dec e (enc e v ++ r) = some (v, r)) : ∀ (l : List Val) (r : List UInt8), (∀ v ∈ l, wf e v) → listDec (dec e) l.length ((l.map (enc e)).flatten ++ r) = some (l, r) := by
  intro l
  induction l with
  | nil => intro r _; simp [listDec]
  | cons v l ih =>
    intro r h
    simp only [List.map_cons, List.flatten_cons, List.length_cons, List.append_assoc, listDec]
    rw [hd v _ (h v (by simp))]
    simp only
    rw [ih r (fun v hv => h v (by simp [hv]))]

/-- What is written is read again. -/
theorem dec_enc : ∀ (w : W) (v : Val) (r : List UInt8), w.ok = true → wf w v → dec w (enc w v ++ r) = some (v, r) := by
  intro w
  induction w with
  | unit => intro v r _ hv; simp only [wf] at hv; subst hv; rfl
  | pair a b iha ihb =>
    intro v r h hv
    cases v <;> simp only [wf] at hv <;> try exact hv.elim
    rename_i x y
    simp only [W.ok, Bool.and_eq_true] at h
    simp only [enc, dec, List.append_assoc]
    rw [iha x _ h.1 hv.1]
    simp only
    rw [ihb y _ h.2 hv.2]
  | tags =>
    intro v r _ hv
    cases v <;> simp only [wf] at hv <;> try exact hv.elim
    rename_i l
    simp only [enc, dec, List.append_assoc]
    rw [uvDec_uvEnc hv.2]
    simp only
    rw [decTags_encTags l [] 0 r (by intro x hx; cases hx) hv.1]
    rfl
  | prim p =>
    intro v r _ hv
    cases v with
    | int n => simp only [wf] at hv; simp only [enc, dec]; exact primDec_enc p n r hv.1 hv.2.1 hv.2.2
    | bytes o =>
      cases o with
      | none => exact hv.elim
      | some s =>
        simp only [wf] at hv
        obtain ⟨rfl, hs⟩ := hv
        simp only [enc, dec, primDec, Prim.n]
        rw [if_neg (by simp [hs]), if_pos trivial, List.take_left' hs, List.drop_left' hs]
    | _ => exact hv.elim
  | str c nl =>
    intro v r _ hv
    cases v <;> simp only [wf] at hv <;> try exact hv.elim
    rename_i o
    simp only [enc, dec, strDec, List.append_assoc]
    cases o with
    | none =>
      simp only [Option.map_none, Option.getD_none, List.nil_append]
      rw [show (2 : Nat) = Prim.i16.n from rfl, cntDec_none c .i16 (.inl rfl)]
      simp only
      rw [if_pos ⟨by omega, hv⟩]
    | some s =>
      simp only [Option.map_some, Option.getD_some]
      rw [show (2 : Nat) = Prim.i16.n from rfl, cntDec_some c .i16 (.inl rfl) s.length (by simp [Prim.hi]; omega) (by omega)]
      simp only
      rw [if_neg (by omega), spanDec_some]
  | byt c nl =>
    intro v r _ hv
    cases v <;> simp only [wf] at hv <;> try exact hv.elim
    rename_i o
    simp only [enc, dec, bytDec, List.append_assoc]
    cases o with
    | none =>
      simp only [Option.map_none, Option.getD_none, List.nil_append]
      rw [show (4 : Nat) = Prim.i32.n from rfl, cntDec_none c .i32 (.inr rfl)]
      simp only
      rw [if_pos hv, if_pos (by omega)]
    | some s =>
      simp only [Option.map_some, Option.getD_some]
      rw [show (4 : Nat) = Prim.i32.n from rfl, cntDec_some c .i32 (.inr rfl) s.length (by simp [Prim.hi]; omega) (by omega)]
      simp only
      split
      · rw [if_neg (by omega), spanDec_some]
      · rw [if_neg (by omega), spanDec_some]
  | arr c nl nr e ih =>
    intro v r h hv
    cases v <;> simp only [wf] at hv <;> try exact hv.elim
    rename_i o
    simp only [W.ok, Bool.and_eq_true] at h
    simp only [enc, dec, List.append_assoc]
    cases o with
    | none =>
      simp only [Option.map_none, Option.getD_none, List.map_nil, List.flatten_nil, List.nil_append]
      rw [lenDec_none c]
      simp only
      rw [if_pos ⟨by omega, hv⟩]
    | some l =>
      simp only [Option.map_some, Option.getD_some]
      rw [lenDec_some c l.length hv.1 _ (by have := flatten_len e h.1 l hv.2; simp only [List.length_append]; omega)]
      simp only
      rw [if_neg (by omega), Int.toNat_natCast, listDec_enc e (fun v r hw => ih v r h.2 hw) l r hv.2]
  | opt e ih =>
    intro v r h hv
    cases v with
    | opt o =>
      cases o with
      | none => simp [enc, dec]
      | some x =>
        simp only [wf] at hv
        simp only [enc, dec, List.cons_append]
        rw [if_neg (by decide), ih x r (by simpa [W.ok] using h) hv]
    | _ => exact hv.elim

/-! ### octets behind change nothing -/

theorem take_ext {l s : List UInt8} {n : Nat} (h : ¬ l.length < n) : (l ++ s).take n = l.take n := List.take_append_of_le_length (by omega)
theorem drop_ext {l s : List UInt8} {n : Nat} (h : ¬ l.length < n) : (l ++ s).drop n = l.drop n ++ s := List.drop_append_of_le_length (by omega)

theorem cntDec_ext {c : Bool} {p : Prim} {l s r : List UInt8} {n : Int} (h : cntDec c p l = some (n, r)) : cntDec c p (l ++ s) = some (n, r ++ s) := by
  unfold cntDec at h ⊢
  cases c with
  | true =>
    simp only [if_true] at h ⊢
    cases hu : uvDec l with
    | none => rw [hu] at h; cases h
    | some x => obtain ⟨x, l'⟩ := x; rw [hu] at h; rw [uvDec_ext hu]; simp at h ⊢; obtain ⟨rfl, rfl⟩ := h; exact ⟨rfl, rfl⟩
  | false =>
    simp only [Bool.false_eq_true, if_false] at h ⊢
    split at h
    · cases h
    · rename_i hl
      rw [if_neg (by simp; omega), take_ext hl, drop_ext hl]
      simp at h ⊢; obtain ⟨rfl, rfl⟩ := h; exact ⟨rfl, rfl⟩

theorem spanDec_ext {l s r : List UInt8} {n : Int} {v : Val} (h : spanDec n l = some (v, r)) : spanDec n (l ++ s) = some (v, r ++ s) := by
  unfold spanDec at h ⊢
  split at h
  · cases h
  · rename_i hl
    rw [if_neg (by simp; omega), take_ext (by omega), drop_ext (by omega)]
    simp at h ⊢; obtain ⟨rfl, rfl⟩ := h; exact ⟨rfl, rfl⟩

theorem primDec_ext {p : Prim} {l s r : List UInt8} {v : Val} (h : primDec p l = some (v, r)) : primDec p (l ++ s) = some (v, r ++ s) := by
  unfold primDec at h ⊢
  split at h
  · cases h
  · rename_i hl
    rw [if_neg (by simp; omega)]
    split at h
    · rename_i hp
      subst hp
      simp only [Prim.n] at hl
      rw [if_pos rfl, take_ext hl, drop_ext hl]
      simp at h ⊢; obtain ⟨rfl, rfl⟩ := h; exact ⟨rfl, rfl⟩
    · rename_i hp
      rw [if_neg hp, take_ext hl, drop_ext hl]
      simp at h ⊢; obtain ⟨rfl, rfl⟩ := h; exact ⟨rfl, rfl⟩

theorem strDec_ext {c nl : Bool} {l s r : List UInt8} {v : Val} (h : strDec c nl l = some (v, r)) : strDec c nl (l ++ s) = some (v, r ++ s) := by
  unfold strDec at h ⊢
  cases hc : cntDec c .i16 l with
  | none => rw [hc] at h; cases h
  | some x =>
    obtain ⟨n, l'⟩ := x
    rw [hc] at h; rw [cntDec_ext hc]
    simp only at h ⊢
    split at h
    · rename_i hn; rw [if_pos hn]; simp at h ⊢; obtain ⟨rfl, rfl⟩ := h; exact ⟨rfl, rfl⟩
    · rename_i hn; rw [if_neg hn]; exact spanDec_ext h

theorem bytDec_ext {c nl : Bool} {l s r : List UInt8} {v : Val} (h : bytDec c nl l = some (v, r)) : bytDec c nl (l ++ s) = some (v, r ++ s) := by
  unfold bytDec at h ⊢
  cases hc : cntDec c .i32 l with
  | none => rw [hc] at h; cases h
  | some x =>
    obtain ⟨n, l'⟩ := x
    rw [hc] at h; rw [cntDec_ext hc]
    simp only at h ⊢
    split at h
    · rename_i hnl
      rw [if_pos hnl]
      split at h
      · rename_i hn; rw [if_pos hn]; simp at h ⊢; obtain ⟨rfl, rfl⟩ := h; exact ⟨rfl, rfl⟩
      · rename_i hn; rw [if_neg hn]; exact spanDec_ext h
    · rename_i hnl
      rw [if_neg hnl]
      split at h
      · rename_i hn; rw [if_pos hn]; simp at h ⊢; obtain ⟨rfl, rfl⟩ := h; exact ⟨rfl, rfl⟩
      · rename_i hn; rw [if_neg hn]; exact spanDec_ext h

theorem lenDec_ext {c : Bool} {l s r : List UInt8} {n : Int} (h : lenDec c l = some (n, r)) : lenDec c (l ++ s) = some (n, r ++ s) := by
  unfold lenDec at h ⊢
  cases c with
  | true =>
    simp only [if_true] at h ⊢
    cases hu : uvDec l with
    | none => rw [hu] at h; cases h
    | some x =>
      obtain ⟨x, l'⟩ := x
      rw [hu] at h; rw [uvDec_ext hu]
      simp only at h ⊢
      generalize (if x ≤ 2147483648 then (x : Int) - 1 else (x : Int) - 4294967296 - 1) = q at h ⊢
      split at h
      · cases h
      · rename_i hq
        rw [if_neg (by simp; omega)]
        simp at h ⊢; obtain ⟨rfl, rfl⟩ := h; exact ⟨rfl, rfl⟩
  | false =>
    simp only [Bool.false_eq_true, if_false] at h ⊢
    split at h
    · cases h
    · rename_i hl
      rw [if_neg (by simp; omega), take_ext hl, drop_ext hl]
      split at h
      · cases h
      · rename_i hq
        rw [if_neg (by simp at hq ⊢; omega)]
        simp at h ⊢; obtain ⟨rfl, rfl⟩ := h; exact ⟨rfl, rfl⟩

theorem listDec_ext {f : List UInt8 → Option (Val × List UInt8)} (hf : ∀ l s v r, f l = some (v, r) → f (l ++ s) = some (v, r ++ s)) : ∀ (n : Nat) (l s : List UInt8) (vs : List Val) (r : List UInt8), listDec f n l = some (vs, r) → listDec f n (l ++ s) = some (vs, r ++ s) := by
  intro n
  induction n with
  | zero => intro l s vs r h; simp [listDec] at h ⊢; obtain ⟨rfl, rfl⟩ := h; exact ⟨rfl, rfl⟩
  | succ n ih =>
    intro l s vs r h
    simp only [listDec] at h ⊢
    cases hv : f l with
    | none => rw [hv] at h; cases h
    | some x =>
      obtain ⟨v, l1⟩ := x
      rw [hv] at h; rw [hf _ s _ _ hv]
      simp only at h ⊢
      cases hvs : listDec f n l1 with
      | none => rw [hvs] at h; cases h
      | some y =>
        obtain ⟨vs', l2⟩ := y
        rw [hvs] at h; rw [ih _ s _ _ hvs]
        simp at h ⊢; obtain ⟨rfl, rfl⟩ := h; exact ⟨rfl, rfl⟩

theorem dec_ext : ∀ (w : W) (l s : List UInt8) (v : Val) (r : List UInt8), dec w l = some (v, r) → dec w (l ++ s) = some (v, r ++ s) := by
  intro w
  induction w with
  | unit => intro l s v r h; simp only [dec, Option.some.injEq, Prod.mk.injEq] at h ⊢; obtain ⟨rfl, rfl⟩ := h; exact ⟨rfl, rfl⟩
  | pair a b iha ihb =>
    intro l s v r h
    simp only [dec] at h ⊢
    cases hv : dec a l with
    | none => rw [hv] at h; cases h
    | some x =>
      obtain ⟨x, l1⟩ := x
      rw [hv] at h; rw [iha _ s _ _ hv]
      simp only at h ⊢
      cases hb : dec b l1 with
      | none => rw [hb] at h; cases h
      | some y =>
        obtain ⟨y, l2⟩ := y
        rw [hb] at h; rw [ihb _ s _ _ hb]
        simp at h ⊢; obtain ⟨rfl, rfl⟩ := h; exact ⟨rfl, rfl⟩
  | tags =>
    intro l s v r h
    simp only [dec] at h ⊢
    cases hv : uvDec l with
    | none => rw [hv] at h; cases h
    | some x =>
      obtain ⟨n, l1⟩ := x
      rw [hv] at h; rw [uvDec_ext hv]
      simp only at h ⊢
      cases hb : decTags n [] l1 with
      | none => rw [hb] at h; cases h
      | some y =>
        obtain ⟨y, l2⟩ := y
        rw [hb] at h; rw [decTags_ext _ _ _ s _ _ hb]
        simp at h ⊢; obtain ⟨rfl, rfl⟩ := h; exact ⟨rfl, rfl⟩
  | prim p => intro l s v r h; exact primDec_ext h
  | str c nl => intro l s v r h; exact strDec_ext h
  | byt c nl => intro l s v r h; exact bytDec_ext h
  | arr c nl nr e ih =>
    intro l s v r h
    simp only [dec] at h ⊢
    cases hv : lenDec c l with
    | none => rw [hv] at h; cases h
    | some x =>
      obtain ⟨n, l1⟩ := x
      rw [hv] at h; rw [lenDec_ext hv]
      simp only at h ⊢
      split at h
      · rename_i hn; rw [if_pos hn]; simp at h ⊢; obtain ⟨rfl, rfl⟩ := h; exact ⟨rfl, rfl⟩
      · rename_i hn
        rw [if_neg hn]
        cases hb : listDec (dec e) n.toNat l1 with
        | none => rw [hb] at h; cases h
        | some y =>
          obtain ⟨y, l2⟩ := y
          rw [hb] at h; rw [listDec_ext ih _ _ s _ _ hb]
          simp at h ⊢; obtain ⟨rfl, rfl⟩ := h; exact ⟨rfl, rfl⟩
  | opt e ih =>
    intro l s v r h
    simp only [dec] at h ⊢
    cases l with
    | nil => cases h
    | cons b l =>
      simp only [List.cons_append] at h ⊢
      split at h
      · rename_i hb; rw [if_pos hb]; simp at h ⊢; obtain ⟨rfl, rfl⟩ := h; exact ⟨rfl, rfl⟩
      · rename_i hb
        rw [if_neg hb]
        cases hv : dec e l with
        | none => rw [hv] at h; cases h
        | some x =>
          obtain ⟨x, l1⟩ := x
          rw [hv] at h; rw [ih _ s _ _ hv]
          simp at h ⊢; obtain ⟨rfl, rfl⟩ := h; exact ⟨rfl, rfl⟩

/-- What is cut short is not read. -/
theorem dec_cut {w : W} {l q s : List UInt8} {v : Val} (h : dec w l = some (v, [])) (hl : l = q ++ s) (hs : s ≠ []) : dec w q = none := by
  cases hq : dec w q with
  | none => rfl
  | some x =>
    obtain ⟨x, r⟩ := x
    have := dec_ext w q s x r hq
    rw [← hl, h] at this
    simp at this
    exact absurd this.2.2 hs
end Go.Proofs.YtfimokbgggimmaaDoor.Kf
