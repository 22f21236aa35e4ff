/- The wire forms of Kafka's messages as plain data: how values are written and read, that what is written is read again, and that what is cut short is not read. -/
namespace Go.Proofs.YtpefipjgcpchaaaGreatDoorR.Kf
set_option linter.unusedVariables false
set_option linter.unusedSimpArgs false

inductive Prim | bool | i8 | i16 | i32 | i64 | u16 | f64 | uuid
  deriving DecidableEq

/-- How many octets. -/
def Prim.n : Prim → Nat
  | .bool | .i8 => 1
  | .i16 | .u16 => 2
  | .i32 => 4
  | .i64 | .f64 => 8
  | .uuid => 16

/-- A number (or 16 octets) may be of the kind. -/
def Prim.lo : Prim → Int
  | .i8 => -128 | .i16 => -32768 | .i32 => -2147483648 | .i64 => -9223372036854775808
  | _ => 0
def Prim.hi : Prim → Int
  | .bool => 2 | .i8 => 128 | .i16 => 32768 | .i32 => 2147483648 | .i64 => 9223372036854775808
  | .u16 => 65536 | .f64 => 18446744073709551616 | .uuid => 0

inductive Val
  | unit
  | pair (a b : Val)
  | tags (l : List (Nat × List UInt8))
  | int (n : Int)
  | bytes (o : Option (List UInt8))
  | list (o : Option (List Val))
  | opt (o : Option Val)

inductive W
  | unit
  | pair (a b : W)
  | tags
  | prim (p : Prim)
  | str (c nl : Bool)
  | byt (c nl : Bool)
  | arr (c nl nr : Bool) (e : W)
  | opt (e : W)
  deriving DecidableEq

def byteOf (z : Int) : UInt8 := UInt8.ofNat (z % 256).toNat

/-- So many octets of a number, the highest first. -/
def beEnc : Nat → Int → List UInt8
  | 0, _ => []
  | n + 1, x => byteOf (x / 256 ^ n) :: beEnc n x

def beDec : List UInt8 → Nat
  | [] => 0
  | b :: l => b.toNat * 256 ^ l.length + beDec l

theorem beEnc_length (n : Nat) (x : Int) : (beEnc n x).length = n := by
  induction n with
  | zero => rfl
  | succ n ih => simp [beEnc, ih]

theorem byteOf_toNat (z : Int) : ((byteOf z).toNat : Int) = z % 256 := by
  unfold byteOf
  have h0 : 0 ≤ z % 256 := Int.emod_nonneg _ (by decide)
  have h1 : z % 256 < 256 := Int.emod_lt_of_pos _ (by decide)
  rw [UInt8.toNat_ofNat']
  omega

theorem beDec_lt (l : List UInt8) : beDec l < 256 ^ l.length := by
  induction l with
  | nil => simp [beDec]
  | cons b l ih =>
    simp only [beDec, List.length_cons, Nat.pow_succ]
    have hb : b.toNat < 256 := b.toNat_lt
    have : b.toNat * 256 ^ l.length ≤ 255 * 256 ^ l.length := Nat.mul_le_mul_right _ (by omega)
    omega

theorem beDec_beEnc (n : Nat) (x : Int) : (beDec (beEnc n x) : Int) = x % 256 ^ n := by
  induction n with
  | zero => simp [beEnc, beDec, Int.emod_one]
  | succ n ih =>
    simp only [beEnc, beDec, beEnc_length, Int.natCast_add, Int.natCast_mul, ih, byteOf_toNat, Int.natCast_pow]
    have hp : (0 : Int) < 256 ^ n := Int.pow_pos (by decide)
    have h1 := Int.mul_ediv_add_emod x (256 ^ n)
    have h2 := Int.mul_ediv_add_emod (x / 256 ^ n) 256
    have e : (256 : Int) ^ (n + 1) = 256 ^ n * 256 := Int.pow_succ _ _
    have hr0 : 0 ≤ x % 256 ^ n := Int.emod_nonneg _ (by omega)
    have hr1 : x % 256 ^ n < 256 ^ n := Int.emod_lt_of_pos _ hp
    have hq0 : 0 ≤ x / 256 ^ n % 256 := Int.emod_nonneg _ (by decide)
    have hq1 : x / 256 ^ n % 256 < 256 := Int.emod_lt_of_pos _ (by decide)
    have key : x = (x / 256 ^ n % 256 * 256 ^ n + x % 256 ^ n) + 256 ^ (n + 1) * (x / 256 ^ n / 256) := by
      rw [e]
      have : 256 ^ n * 256 * (x / 256 ^ n / 256) + x / 256 ^ n % 256 * 256 ^ n = 256 ^ n * (256 * (x / 256 ^ n / 256) + x / 256 ^ n % 256) := by
        rw [Int.mul_add, Int.mul_assoc, Int.mul_comm (x / 256 ^ n % 256)]
      rw [h2] at this
      omega
    have hs0 : 0 ≤ x / 256 ^ n % 256 * 256 ^ n + x % 256 ^ n := by
      have := Int.mul_nonneg hq0 (Int.le_of_lt hp); omega
    have hs1 : x / 256 ^ n % 256 * 256 ^ n + x % 256 ^ n < 256 ^ (n + 1) := by
      rw [e]
      have : x / 256 ^ n % 256 * 256 ^ n ≤ 255 * 256 ^ n := Int.mul_le_mul_of_nonneg_right (by omega) (Int.le_of_lt hp)
      omega
    have := congrArg (· % ((256 : Int) ^ (n + 1))) key
    simp only [Int.add_mul_emod_self_left] at this
    rw [this, Int.emod_eq_of_lt hs0 hs1]; rfl

/-- The number that octets say, as a number of the kind. -/
def Prim.conv (p : Prim) (m : Nat) : Int :=
  match p with
  | .bool => if m = 0 then 0 else 1
  | .i8 => if m < 128 then m else (m : Int) - 256
  | .i16 => if m < 32768 then m else (m : Int) - 65536
  | .i32 => if m < 2147483648 then m else (m : Int) - 4294967296
  | .i64 => if m < 9223372036854775808 then m else (m : Int) - 18446744073709551616
  | _ => m

/-! ### groups of seven bits -/

def uvEncF : Nat → Nat → List UInt8
  | 0, _ => []
  | k + 1, n => if n < 128 then [UInt8.ofNat n] else UInt8.ofNat (n % 128 + 128) :: uvEncF k (n / 128)
/-- A number below 2^64 in groups of seven bits. -/
def uvEnc (n : Nat) : List UInt8 := uvEncF 10 n

def uvDecF : Nat → Nat → List UInt8 → Option (Nat × List UInt8)
  | _, _, [] => none
  | 0, m, b :: r => if b.toNat < 16 then some (b.toNat * m, r) else none
  | k + 1, m, b :: r =>
    if b.toNat < 128 then some (b.toNat * m, r)
    else (uvDecF k (m * 128) r).map fun x => ((b.toNat - 128) * m + x.1, x.2)
/-- As the package reads a number of 32 bits: five groups at most. -/
def uvDec (l : List UInt8) : Option (Nat × List UInt8) := uvDecF 4 1 l

theorem uvDecF_ext (k : Nat) : ∀ (m : Nat) (l s : List UInt8) (x : Nat) (r : List UInt8), uvDecF k m l = some (x, r) → uvDecF k m (l ++ s) = some (x, r ++ s) := by
  induction k with
  | zero =>
    intro m l s x r h
    cases l with
    | nil => simp [uvDecF] at h
    | cons b l =>
      simp only [uvDecF, List.cons_append] at h ⊢
      split at h
      · rename_i hb; rw [if_pos hb]; simp at h; obtain ⟨rfl, rfl⟩ := h; rfl
      · cases h
  | succ k ih =>
    intro m l s x r h
    cases l with
    | nil => simp [uvDecF] at h
    | cons b l =>
      simp only [uvDecF, List.cons_append] at h ⊢
      split at h
      · rename_i hb; rw [if_pos hb]; simp at h; obtain ⟨rfl, rfl⟩ := h; rfl
      · rename_i hb
        rw [if_neg hb]
        cases hd : uvDecF k (m * 128) l with
        | none => rw [hd] at h; cases h
        | some y =>
          obtain ⟨y, r'⟩ := y
          rw [hd] at h
          simp at h
          obtain ⟨rfl, rfl⟩ := h
          rw [ih _ _ s _ _ hd]; rfl

theorem uvDecF_len (k : Nat) : ∀ (m : Nat) (l : List UInt8) (x : Nat) (r : List UInt8), uvDecF k m l = some (x, r) → r.length < l.length := by
  induction k with
  | zero =>
    intro m l x r h
    cases l with
    | nil => simp [uvDecF] at h
    | cons b l =>
      simp only [uvDecF] at h
      split at h
      · simp at h; obtain ⟨_, rfl⟩ := h; simp
      · cases h
  | succ k ih =>
    intro m l x r h
    cases l with
    | nil => simp [uvDecF] at h
    | cons b l =>
      simp only [uvDecF] at h
      split at h
      · simp at h; obtain ⟨_, rfl⟩ := h; simp
      · cases hd : uvDecF k (m * 128) l with
        | none => rw [hd] at h; cases h
        | some y =>
          obtain ⟨y, r'⟩ := y
          rw [hd] at h
          simp at h
          obtain ⟨_, rfl⟩ := h
          have := ih _ _ _ _ hd
          simp; omega

/-- The number that is read is below m times 2^(7k+4). -/
theorem uvDecF_lt (k : Nat) : ∀ (m : Nat) (l : List UInt8) (x : Nat) (r : List UInt8), 0 < m → uvDecF k m l = some (x, r) → x < m * (128 ^ k * 16) := by
  induction k with
  | zero =>
    intro m l x r hm h
    cases l with
    | nil => simp [uvDecF] at h
    | cons b l =>
      simp only [uvDecF] at h
      split at h
      · rename_i hb
        simp at h; obtain ⟨rfl, _⟩ := h
        rw [Nat.mul_comm]
        simp only [Nat.pow_zero, Nat.one_mul]
        exact Nat.mul_lt_mul_of_pos_left hb hm
      · cases h
  | succ k ih =>
    intro m l x r hm h
    have hK : 0 < 128 ^ k := Nat.pow_pos (by decide)
    cases l with
    | nil => simp [uvDecF] at h
    | cons b l =>
      simp only [uvDecF] at h
      split at h
      · rename_i hb
        simp at h; obtain ⟨rfl, _⟩ := h
        rw [Nat.mul_comm]
        refine Nat.mul_lt_mul_of_pos_left ?_ hm
        rw [Nat.pow_succ]; omega
      · cases hd : uvDecF k (m * 128) l with
        | none => rw [hd] at h; cases h
        | some y =>
          obtain ⟨y, r'⟩ := y
          rw [hd] at h
          simp at h
          obtain ⟨rfl, _⟩ := h
          have h1 := ih (m * 128) l y r' (by omega) hd
          have hb : b.toNat < 256 := b.toNat_lt
          have h2 : (b.toNat - 128) * m ≤ 127 * m := Nat.mul_le_mul_right _ (by omega)
          -- y < m*128*(128^k*16) and its residue modulo m*128 leaves room: y is a multiple of m*128
          have h3 : ∀ (k m : Nat) (l : List UInt8) (x : Nat) (r : List UInt8), uvDecF k m l = some (x, r) → m ∣ x := by
            intro k
            induction k with
            | zero =>
              intro m l x r h
              cases l with
              | nil => simp [uvDecF] at h
              | cons b l =>
                simp only [uvDecF] at h
                split at h
                · simp at h; obtain ⟨rfl, _⟩ := h; exact Nat.dvd_mul_left _ _
                · cases h
            | succ k ih =>
              intro m l x r h
              cases l with
              | nil => simp [uvDecF] at h
              | cons b l =>
                simp only [uvDecF] at h
                split at h
                · simp at h; obtain ⟨rfl, _⟩ := h; exact Nat.dvd_mul_left _ _
                · cases hd : uvDecF k (m * 128) l with
                  | none => rw [hd] at h; cases h
                  | some y =>
                    obtain ⟨y, r'⟩ := y
                    rw [hd] at h
                    simp at h
                    obtain ⟨rfl, _⟩ := h
                    exact Nat.dvd_add (Nat.dvd_mul_left _ _) (Nat.dvd_trans (Nat.dvd_mul_right _ _) (ih _ _ _ _ hd))
          obtain ⟨q, rfl⟩ := h3 _ _ _ _ _ hd
          have h4 : q < 128 ^ k * 16 := Nat.lt_of_mul_lt_mul_left h1
          have h5 : m * 128 * (q + 1) ≤ m * 128 * (128 ^ k * 16) := Nat.mul_le_mul_left _ h4
          rw [Nat.mul_add, Nat.mul_one] at h5
          have h6 : m * (128 ^ (k + 1) * 16) = m * 128 * (128 ^ k * 16) := by
            rw [Nat.pow_succ, Nat.mul_comm (128 ^ k) 128, Nat.mul_assoc, Nat.mul_assoc]
          rw [h6]
          omega

theorem uvDec_lt {l : List UInt8} {x : Nat} {r : List UInt8} (h : uvDec l = some (x, r)) : x < 4294967296 := by
  have := uvDecF_lt 4 1 l x r (by decide) h
  omega

theorem uvDec_ext {l s : List UInt8} {x : Nat} {r : List UInt8} (h : uvDec l = some (x, r)) : uvDec (l ++ s) = some (x, r ++ s) := uvDecF_ext _ _ _ _ _ _ h
theorem uvDec_len {l : List UInt8} {x : Nat} {r : List UInt8} (h : uvDec l = some (x, r)) : r.length < l.length := uvDecF_len _ _ _ _ _ h

theorem uvDecF_uvEncF (k : Nat) : ∀ (m n j : Nat) (r : List UInt8), n < 128 ^ k * 16 → k < j → uvDecF k m (uvEncF j n ++ r) = some (n * m, r) := by
  induction k with
  | zero =>
    intro m n j r hn hj
    obtain ⟨j, rfl⟩ : ∃ i, j = i + 1 := ⟨j - 1, by omega⟩
    have hn' : n < 16 := by simpa using hn
    simp only [uvEncF]
    rw [if_pos (by omega)]
    simp only [List.cons_append, List.nil_append, uvDecF, UInt8.toNat_ofNat']
    rw [Nat.mod_eq_of_lt (by omega), if_pos hn']
  | succ k ih =>
    intro m n j r hn hj
    obtain ⟨j, rfl⟩ : ∃ i, j = i + 1 := ⟨j - 1, by omega⟩
    simp only [uvEncF]
    split
    · rename_i h
      simp only [List.cons_append, List.nil_append, uvDecF, UInt8.toNat_ofNat']
      rw [Nat.mod_eq_of_lt (by omega), if_pos h]
    · rename_i h
      simp only [List.cons_append, uvDecF, UInt8.toNat_ofNat']
      rw [Nat.mod_eq_of_lt (a := n % 128 + 128) (by omega), if_neg (by omega)]
      have hq : n / 128 < 128 ^ k * 16 := by
        rw [Nat.pow_succ] at hn
        exact Nat.div_lt_of_lt_mul (by rw [← Nat.mul_assoc, Nat.mul_comm 128]; exact hn)
      rw [ih _ _ _ _ hq (by omega)]
      simp only [Option.map_some, Nat.add_sub_cancel, Option.some.injEq, Prod.mk.injEq, and_true]
      have := Nat.div_add_mod n 128
      calc n % 128 * m + n / 128 * (m * 128) = (128 * (n / 128) + n % 128) * m := by rw [Nat.add_mul, Nat.mul_comm m 128, ← Nat.mul_assoc, Nat.mul_comm (n / 128) 128, Nat.add_comm]
        _ = n * m := by rw [this]

theorem uvDec_uvEnc {n : Nat} (h : n < 4294967296) (r : List UInt8) : uvDec (uvEnc n ++ r) = some (n, r) := by
  have := uvDecF_uvEncF 4 1 n 10 r (by omega) (by omega)
  simpa [uvDec, uvEnc] using this

theorem uvEnc_pos (n : Nat) : 0 < (uvEnc n).length := by
  unfold uvEnc; simp only [uvEncF]; split <;> simp

/-! ### tags -/

/-- A tag set: the last one counts; by rising numbers. -/
def tset (k : Nat) (v : List UInt8) : List (Nat × List UInt8) → List (Nat × List UInt8)
  | [] => [(k, v)]
  | (j, u) :: l => if k < j then (k, v) :: (j, u) :: l else if k = j then (k, v) :: l else (j, u) :: tset k v l

def encTags : List (Nat × List UInt8) → List UInt8
  | [] => []
  | (k, v) :: l => uvEnc k ++ (uvEnc v.length ++ (v ++ encTags l))

/-- So many tags are read, set into what is there. -/
def decTags : Nat → List (Nat × List UInt8) → List UInt8 → Option (List (Nat × List UInt8) × List UInt8)
  | 0, acc, l => some (acc, l)
  | n + 1, acc, l =>
    match uvDec l with
    | none => none
    | some (k, l) =>
      match uvDec l with
      | none => none
      | some (m, l) => if l.length < m then none else decTags n (tset k (l.take m) acc) (l.drop m)

/-- Rising numbers, all above b; numbers and lengths of 32 bits. -/
def upTags : Nat → List (Nat × List UInt8) → Prop
  | _, [] => True
  | b, (k, v) :: l => b ≤ k ∧ k < 4294967296 ∧ v.length < 4294967296 ∧ upTags (k + 1) l

theorem upTags_mono {b c : Nat} (h : b ≤ c) {l : List (Nat × List UInt8)} (hl : upTags c l) : upTags b l := by
  cases l with
  | nil => trivial
  | cons x l => obtain ⟨k, v⟩ := x; exact ⟨by have := hl.1; omega, hl.2⟩

theorem upTags_tset (k : Nat) (v : List UInt8) (hk : k < 4294967296) (hv : v.length < 4294967296) : ∀ (l : List (Nat × List UInt8)) (b : Nat), upTags b l → upTags (min b k) (tset k v l) := by
  intro l
  induction l with
  | nil => intro b _; exact ⟨by omega, hk, hv, trivial⟩
  | cons x l ih =>
    intro b h
    obtain ⟨j, u⟩ := x
    obtain ⟨h1, h2, h3, h4⟩ := h
    unfold tset
    split
    · exact ⟨by omega, hk, hv, by omega, h2, h3, h4⟩
    · split
      · rename_i hj; subst hj; exact ⟨by omega, hk, hv, h4⟩
      · exact ⟨by omega, h2, h3, upTags_mono (by omega) (ih (j + 1) h4)⟩

theorem decTags_up (n : Nat) : ∀ (acc : List (Nat × List UInt8)) (l : List UInt8) (x : List (Nat × List UInt8)) (r : List UInt8), upTags 0 acc → decTags n acc l = some (x, r) → upTags 0 x := by
  induction n with
  | zero => intro acc l x r h e; simp [decTags] at e; obtain ⟨rfl, _⟩ := e; exact h
  | succ n ih =>
    intro acc l x r h e
    simp only [decTags] at e
    split at e
    · cases e
    · rename_i k l1 hk
      split at e
      · cases e
      · rename_i m l2 hm
        split at e
        · cases e
        · rename_i hlen
          refine ih _ _ _ _ ?_ e
          have := upTags_tset k (l2.take m) (uvDec_lt hk) (by have := uvDec_lt hm; simp; omega) acc 0 h
          simpa using this

theorem decTags_ext (n : Nat) : ∀ (acc : List (Nat × List UInt8)) (l s : List UInt8) (x : List (Nat × List UInt8)) (r : List UInt8), decTags n acc l = some (x, r) → decTags n acc (l ++ s) = some (x, r ++ s) := by
  induction n with
  | zero => intro acc l s x r e; simp [decTags] at e ⊢; obtain ⟨rfl, rfl⟩ := e; exact ⟨rfl, rfl⟩
  | succ n ih =>
    intro acc l s x r e
    simp only [decTags] at e ⊢
    split at e
    · cases e
    · rename_i k l1 hk
      rw [uvDec_ext hk]
      simp only
      split at e
      · cases e
      · rename_i m l2 hm
        rw [uvDec_ext hm]
        simp only
        split at e
        · cases e
        · rename_i hlen
          rw [if_neg (by simp; omega), List.take_append_of_le_length (by omega), List.drop_append_of_le_length (by omega)]
          exact ih _ _ _ _ _ e

theorem decTags_len (n : Nat) : ∀ (acc : List (Nat × List UInt8)) (l : List UInt8) (x : List (Nat × List UInt8)) (r : List UInt8), decTags n acc l = some (x, r) → r.length ≤ l.length := by
  induction n with
  | zero => intro acc l x r e; simp [decTags] at e; obtain ⟨_, rfl⟩ := e; exact Nat.le_refl _
  | succ n ih =>
    intro acc l x r e
    simp only [decTags] at e
    split at e
    · cases e
    · rename_i k l1 hk
      split at e
      · cases e
      · rename_i m l2 hm
        split at e
        · cases e
        · have h1 := ih _ _ _ _ e
          have h2 := uvDec_len hk
          have h3 := uvDec_len hm
          simp at h1; omega

/-- All numbers below b. -/
def belowTags (b : Nat) (l : List (Nat × List UInt8)) : Prop := ∀ x ∈ l, x.1 < b

theorem tset_last (k : Nat) (v : List UInt8) : ∀ (l : List (Nat × List UInt8)), belowTags k l → tset k v l = l ++ [(k, v)] := by
  intro l
  induction l with
  | nil => intro _; rfl
  | cons x l ih =>
    intro h
    obtain ⟨j, u⟩ := x
    have hj : j < k := h (j, u) (by simp)
    unfold tset
    rw [if_neg (by omega), if_neg (by omega), ih (fun x hx => h x (by simp [hx]))]
    rfl

theorem decTags_encTags (l : List (Nat × List UInt8)) : ∀ (acc : List (Nat × List UInt8)) (b : Nat) (r : List UInt8), belowTags b acc → upTags b l → decTags l.length acc (encTags l ++ r) = some (acc ++ l, r) := by
  induction l with
  | nil => intro acc b r _ _; simp [decTags, encTags]
  | cons x l ih =>
    intro acc b r hacc hl
    obtain ⟨k, v⟩ := x
    obtain ⟨h1, h2, h3, h4⟩ := hl
    simp only [encTags, List.length_cons, List.append_assoc, decTags]
    rw [uvDec_uvEnc h2]
    simp only
    rw [uvDec_uvEnc h3]
    simp only
    rw [if_neg (by simp), List.take_left' rfl, List.drop_left' rfl, tset_last k v acc (fun x hx => by have := hacc x hx; omega), ih _ (k + 1) r ?_ h4]
    · simp
    · intro x hx
      simp at hx
      rcases hx with hx | rfl
      · have := hacc x hx; omega
      · simp

/-! ### the forms -/

/-- A count ahead of a list: what the package makes of it (at most what is left, else not read). -/
def lenDec (c : Bool) (l : List UInt8) : Option (Int × List UInt8) :=
  if c then
    match uvDec l with
    | none => none
    | some (u, l) =>
      let r : Int := if u ≤ 2147483648 then (u : Int) - 1 else (u : Int) - 4294967296 - 1
      if (l.length : Int) < r then none else some (r, l)
  else
    if l.length < 4 then none
    else
      let r := Prim.i32.conv (beDec (l.take 4))
      if ((l.drop 4).length : Int) < r then none else some (r, l.drop 4)

/-- A count ahead of octets: of a text (two octets), of octets (four), or in groups. -/
def cntDec (c : Bool) (p : Prim) (l : List UInt8) : Option (Int × List UInt8) :=
  if c then (uvDec l).map fun x => ((x.1 : Int) - 1, x.2)
  else if l.length < p.n then none else some (p.conv (beDec (l.take p.n)), l.drop p.n)

def spanDec (n : Int) (l : List UInt8) : Option (Val × List UInt8) :=
  if n < 0 ∨ (l.length : Int) < n then none else some (.bytes (some (l.take n.toNat)), l.drop n.toNat)

def primDec (p : Prim) (l : List UInt8) : Option (Val × List UInt8) :=
  if l.length < p.n then none
  else if p = .uuid then some (.bytes (some (l.take 16)), l.drop 16)
  else some (.int (p.conv (beDec (l.take p.n))), l.drop p.n)

def strDec (c nl : Bool) (l : List UInt8) : Option (Val × List UInt8) :=
  match cntDec c .i16 l with
  | none => none
  | some (n, l) => if n < 0 ∧ nl = true then some (.bytes none, l) else spanDec n l

def bytDec (c nl : Bool) (l : List UInt8) : Option (Val × List UInt8) :=
  match cntDec c .i32 l with
  | none => none
  | some (n, l) =>
    if nl = true then (if n < 0 then some (.bytes none, l) else spanDec n l)
    else if n = -1 then some (.bytes (some []), l) else spanDec n l

def listDec (f : List UInt8 → Option (Val × List UInt8)) : Nat → List UInt8 → Option (List Val × List UInt8)
  | 0, l => some ([], l)
  | n + 1, l =>
    match f l with
    | none => none
    | some (v, l) =>
      match listDec f n l with
      | none => none
      | some (vs, l) => some (v :: vs, l)

def dec : W → List UInt8 → Option (Val × List UInt8)
  | .unit, l => some (.unit, l)
  | .pair a b, l =>
    match dec a l with
    | none => none
    | some (x, l) =>
      match dec b l with
      | none => none
      | some (y, l) => some (.pair x y, l)
  | .tags, l =>
    match uvDec l with
    | none => none
    | some (n, l) =>
      match decTags n [] l with
      | none => none
      | some (t, l) => some (.tags t, l)
  | .prim p, l => primDec p l
  | .str c nl, l => strDec c nl l
  | .byt c nl, l => bytDec c nl l
  | .arr c nl nr e, l =>
    match lenDec c l with
    | none => none
    | some (n, l) =>
      if n < 0 ∧ nl = true ∧ nr = true then some (.list none, l)
      else
        match listDec (dec e) n.toNat l with
        | none => none
        | some (vs, l) => some (.list (some vs), l)
  | .opt e, l =>
    match l with
    | [] => none
    | b :: l =>
      if b = 255 then some (.opt none, l)
      else
        match dec e l with
        | none => none
        | some (v, l) => some (.opt (some v), l)

def cntEnc (c : Bool) (n : Nat) (o : Option Nat) : List UInt8 :=
  match c, o with
  | true, none => [0]
  | true, some k => uvEnc (k + 1)
  | false, none => beEnc n (-1)
  | false, some k => beEnc n k

def enc : W → Val → List UInt8
  | .unit, _ => []
  | .pair a b, .pair x y => enc a x ++ enc b y
  | .tags, .tags l => uvEnc l.length ++ encTags l
  | .prim p, .int n => beEnc p.n n
  | .prim _, .bytes (some s) => s
  | .str c _, .bytes o => cntEnc c 2 (o.map List.length) ++ o.getD []
  | .byt c _, .bytes o => cntEnc c 4 (o.map List.length) ++ o.getD []
  | .arr c _ _ e, .list o => cntEnc c 4 (o.map List.length) ++ ((o.getD []).map (enc e)).flatten
  | .opt _, .opt none => [255]
  | .opt e, .opt (some v) => 1 :: enc e v
  | _, _ => []

/-- A value may be of the form. -/
def wf : W → Val → Prop
  | .unit, v => v = .unit
  | .pair a b, .pair x y => wf a x ∧ wf b y
  | .tags, .tags l => upTags 0 l ∧ l.length < 4294967296
  | .prim p, .int n => p ≠ .uuid ∧ p.lo ≤ n ∧ n < p.hi
  | .prim p, .bytes (some s) => p = .uuid ∧ s.length = 16
  | .str _ nl, .bytes o => match o with | none => nl = true | some s => s.length ≤ 32767
  | .byt _ nl, .bytes o => match o with | none => nl = true | some s => s.length ≤ 2147483646
  | .arr _ nl nr e, .list o => match o with | none => nl = true ∧ nr = true | some l => l.length ≤ 2147483646 ∧ ∀ v ∈ l, wf e v
  | .opt _, .opt none => True
  | .opt e, .opt (some v) => wf e v
  | _, _ => False

/-- At least one octet is written. -/
def W.pos : W → Bool
  | .unit => false
  | .pair a b => a.pos || b.pos
  | _ => true

/-- The things of every list are written with at least one octet. -/
def W.ok : W → Bool
  | .pair a b => a.ok && b.ok
  | .arr _ _ _ e => e.pos && e.ok
  | .opt e => e.ok
  | _ => true

theorem cntEnc_pos (c : Bool) (n : Nat) (o : Option Nat) (hn : 0 < n) : 0 < (cntEnc c n o).length := by
  cases c <;> cases o <;> simp [cntEnc, beEnc_length, uvEnc_pos, hn]

theorem enc_pos : ∀ (w : W) (v : Val), w.pos = true → wf w v → 0 < (enc w v).length := by
  intro w
  induction w with
  | unit => intro v h; simp [W.pos] at h
  | pair a b iha ihb =>
    intro v h hv
    cases v <;> simp only [wf] at hv <;> try exact hv.elim
    rename_i x y
    simp only [W.pos, Bool.or_eq_true] at h
    simp only [enc, List.length_append]
    rcases h with h | h
    · have := iha x h hv.1; omega
    · have := ihb y h hv.2; omega
  | tags =>
    intro v _ hv
    cases v <;> simp only [wf] at hv <;> try exact hv.elim
    simp only [enc, List.length_append]
    have := uvEnc_pos
    rename_i l
    have := this l.length
    omega
  | prim p =>
    intro v _ hv
    cases v with
    | int n => simp only [enc, beEnc_length]; cases p <;> decide
    | bytes o =>
      cases o with
      | none => exact hv.elim
      | some s => simp only [wf] at hv; simp only [enc]; omega
    | _ => exact hv.elim
  | str c nl =>
    intro v _ hv
    cases v <;> simp only [wf] at hv <;> try exact hv.elim
    simp only [enc, List.length_append]
    rename_i o
    have := cntEnc_pos c 2 (o.map List.length) (by decide)
    omega
  | byt c nl =>
    intro v _ hv
    cases v <;> simp only [wf] at hv <;> try exact hv.elim
    simp only [enc, List.length_append]
    rename_i o
    have := cntEnc_pos c 4 (o.map List.length) (by decide)
    omega
  | arr c nl nr e ih =>
    intro v _ hv
    cases v <;> simp only [wf] at hv <;> try exact hv.elim
    simp only [enc, List.length_append]
    rename_i o
    have := cntEnc_pos c 4 (o.map List.length) (by decide)
    omega
  | opt e ih =>
    intro v _ hv
    cases v with
    | opt o => cases o <;> simp [enc]
    | _ => exact hv.elim

theorem conv_enc (p : Prim) (n : Int) (hp : p ≠ .uuid) (h0 : p.lo ≤ n) (h1 : n < p.hi) : p.conv (beDec (beEnc p.n n)) = n := by
  have h := beDec_beEnc p.n n
  cases p <;> simp only [Prim.lo, Prim.hi, Prim.n, Prim.conv] at * <;> (try exact absurd rfl hp) <;> omega

theorem primDec_enc (p : Prim) (n : Int) (r : List UInt8) (hp : p ≠ .uuid) (h0 : p.lo ≤ n) (h1 : n < p.hi) : primDec p (beEnc p.n n ++ r) = some (.int n, r) := by
  have hl := beEnc_length p.n n
  unfold primDec
  rw [if_neg (by simp [hl]), if_neg hp, List.take_left' hl, List.drop_left' hl, conv_enc p n hp h0 h1]

theorem cntDec_none (c : Bool) (p : Prim) (hp : p = .i16 ∨ p = .i32) (r : List UInt8) : cntDec c p (cntEnc c p.n none ++ r) = some (-1, r) := by
  cases c with
  | true => simp [cntDec, cntEnc, uvDec, uvDecF]
  | false =>
    have hl := beEnc_length p.n (-1)
    rw [show cntEnc false p.n none = beEnc p.n (-1) from rfl]
    simp only [cntDec, Bool.false_eq_true, if_false]
    rw [if_neg (by simp [hl]), List.take_left' hl, List.drop_left' hl, conv_enc p (-1) (by rcases hp with rfl | rfl <;> decide) (by rcases hp with rfl | rfl <;> decide) (by rcases hp with rfl | rfl <;> decide)]

theorem cntDec_some (c : Bool) (p : Prim) (hp : p = .i16 ∨ p = .i32) (k : Nat) (hk : (k : Int) < p.hi) (hk2 : k < 4294967295) (r : List UInt8) : cntDec c p (cntEnc c p.n (some k) ++ r) = some ((k : Int), r) := by
  cases c with
  | true =>
    simp only [cntDec, cntEnc, if_true]
    rw [uvDec_uvEnc (by omega)]
    simp
  | false =>
    have hl := beEnc_length p.n k
    rw [show cntEnc false p.n (some k) = beEnc p.n k from rfl]
    simp only [cntDec, Bool.false_eq_true, if_false]
    rw [if_neg (by simp [hl]), List.take_left' hl, List.drop_left' hl, conv_enc p k (by rcases hp with rfl | rfl <;> decide) (by rcases hp with rfl | rfl <;> simp [Prim.lo] <;> omega) hk]

theorem spanDec_some (s r : List UInt8) : spanDec s.length (s ++ r) = some (.bytes (some s), r) := by
  unfold spanDec
  rw [if_neg (by simp; omega)]
  simp [List.take_left', List.drop_left']

theorem lenDec_none (c : Bool) (r : List UInt8) : lenDec c (cntEnc c 4 none ++ r) = some (-1, r) := by
  cases c with
  | true =>
    simp only [lenDec, cntEnc, if_true]
    have : uvDec ([0] ++ r) = some (0, r) := by simp [uvDec, uvDecF]
    rw [this]
    simp only [Nat.zero_le, if_true]
    rw [if_neg (by omega)]
    rfl
  | false =>
    have hl := beEnc_length 4 (-1)
    rw [show cntEnc false 4 none = beEnc 4 (-1) from rfl]
    simp only [lenDec, Bool.false_eq_true, if_false]
    rw [if_neg (by simp [hl]), List.take_left' hl, List.drop_left' hl]
    rw [show Prim.conv .i32 (beDec (beEnc 4 (-1))) = -1 from conv_enc .i32 (-1) (by decide) (by decide) (by decide)]
    rw [if_neg (by omega)]

theorem lenDec_some (c : Bool) (k : Nat) (hk : k ≤ 2147483646) (r : List UInt8) (hr : k ≤ r.length) : lenDec c (cntEnc c 4 (some k) ++ r) = some ((k : Int), r) := by
  cases c with
  | true =>
    simp only [lenDec, cntEnc, if_true]
    rw [uvDec_uvEnc (by omega)]
    simp only
    have e : (if k + 1 ≤ 2147483648 then ((k + 1 : Nat) : Int) - 1 else ((k + 1 : Nat) : Int) - 4294967296 - 1) = (k : Int) := by
      rw [if_pos (by omega)]; omega
    rw [e, if_neg (by omega)]
  | false =>
    have hl := beEnc_length 4 k
    rw [show cntEnc false 4 (some k) = beEnc 4 k from rfl]
    simp only [lenDec, Bool.false_eq_true, if_false]
    rw [if_neg (by simp [hl]), List.take_left' hl, List.drop_left' hl]
    rw [show Prim.conv .i32 (beDec (beEnc 4 k)) = k from conv_enc .i32 k (by decide) (by simp only [Prim.lo]; omega) (by simp only [Prim.hi]; omega)]
    rw [if_neg (by omega)]

theorem flatten_len (e : W) (he : e.pos = true) : ∀ (l : List Val), (∀ v ∈ l, wf e v) → l.length ≤ ((l.map (enc e)).flatten).length := by
  intro l
  induction l with
  | nil => intro _; simp
  | cons v l ih =>
    intro h
    have h1 := enc_pos e v he (h v (by simp))
    have h2 := ih (fun v hv => h v (by simp [hv]))
    simp only [List.map_cons, List.flatten_cons, List.length_append, List.length_cons]
    omega

theorem listDec_enc (e : W) (hd : ∀ v r, wf e v → dec e (enc e v ++ r) = some (v, r)) : ∀ (l : List Val) (r : List UInt8), (∀ v ∈ l, wf e v) → listDec (dec e) l.length ((l.map (enc e)).flatten ++ r) = some (l, r) := by
  intro l
  induction l with
  | nil => intro r _; simp [listDec]
  | cons v l ih =>
    intro r h
    simp only [List.map_cons, List.flatten_cons, List.length_cons, List.append_assoc, listDec]
    rw [hd v _ (h v (by simp))]
    simp only
    rw [ih r (fun v hv => h v (by simp [hv]))]

/-- What is written is read again. -/
theorem dec_enc : ∀ (w : W) (v : Val) (r : List UInt8), w.ok = true → wf w v → dec w (enc w v ++ r) = some (v, r) := by
  intro w
  induction w with
  | unit => intro v r _ hv; simp only [wf] at hv; subst hv; rfl
  | pair a b iha ihb =>
    intro v r h hv
    cases v <;> simp only [wf] at hv <;> try exact hv.elim
    rename_i x y
    simp only [W.ok, Bool.and_eq_true] at h
    simp only [enc, dec, List.append_assoc]
    rw [iha x _ h.1 hv.1]
    simp only
    rw [ihb y _ h.2 hv.2]
  | tags =>
    intro v r _ hv
    cases v <;> simp only [wf] at hv <;> try exact hv.elim
    rename_i l
    simp only [enc, dec, List.append_assoc]
    rw [uvDec_uvEnc hv.2]
    simp only
    rw [decTags_encTags l [] 0 r (by intro x hx; cases hx) hv.1]
    rfl
  | prim p =>
    intro v r _ hv
    cases v with
    | int n => simp only [wf] at hv; simp only [enc, dec]; exact primDec_enc p n r hv.1 hv.2.1 hv.2.2
    | bytes o =>
      cases o with
      | none => exact hv.elim
      | some s =>
        simp only [wf] at hv
        obtain ⟨rfl, hs⟩ := hv
        simp only [enc, dec, primDec, Prim.n]
        rw [if_neg (by simp [hs]), if_pos trivial, List.take_left' hs, List.drop_left' hs]
    | _ => exact hv.elim
  | str c nl =>
    intro v r _ hv
    cases v <;> simp only [wf] at hv <;> try exact hv.elim
    rename_i o
    simp only [enc, dec, strDec, List.append_assoc]
    cases o with
    | none =>
      simp only [Option.map_none, Option.getD_none, List.nil_append]
      rw [show (2 : Nat) = Prim.i16.n from rfl, cntDec_none c .i16 (.inl rfl)]
      simp only
      rw [if_pos ⟨by omega, hv⟩]
    | some s =>
      simp only [Option.map_some, Option.getD_some]
      rw [show (2 : Nat) = Prim.i16.n from rfl, cntDec_some c .i16 (.inl rfl) s.length (by simp [Prim.hi]; omega) (by omega)]
      simp only
      rw [if_neg (by omega), spanDec_some]
  | byt c nl =>
    intro v r _ hv
    cases v <;> simp only [wf] at hv <;> try exact hv.elim
    rename_i o
    simp only [enc, dec, bytDec, List.append_assoc]
    cases o with
    | none =>
      simp only [Option.map_none, Option.getD_none, List.nil_append]
      rw [show (4 : Nat) = Prim.i32.n from rfl, cntDec_none c .i32 (.inr rfl)]
      simp only
      rw [if_pos hv, if_pos (by omega)]
    | some s =>
      simp only [Option.map_some, Option.getD_some]
      rw [show (4 : Nat) = Prim.i32.n from rfl, cntDec_some c .i32 (.inr rfl) s.length (by simp [Prim.hi]; omega) (by omega)]
      simp only
      split
      · rw [if_neg (by omega), spanDec_some]
      · rw [if_neg (by omega), spanDec_some]
  | arr c nl nr e ih =>
    intro v r h hv
    cases v <;> simp only [wf] at hv <;> try exact hv.elim
    rename_i o
    simp only [W.ok, Bool.and_eq_true] at h
    simp only [enc, dec, List.append_assoc]
    cases o with
    | none =>
      simp only [Option.map_none, Option.getD_none, List.map_nil, List.flatten_nil, List.nil_append]
      rw [lenDec_none c]
      simp only
      rw [if_pos ⟨by omega, hv⟩]
    | some l =>
      simp only [Option.map_some, Option.getD_some]
      rw [lenDec_some c l.length hv.1 _ (by have := flatten_len e h.1 l hv.2; simp only [List.length_append]; omega)]
      simp only
      rw [if_neg (by omega), Int.toNat_natCast, listDec_enc e (fun v r hw => ih v r h.2 hw) l r hv.2]
  | opt e ih =>
    intro v r h hv
    cases v with
    | opt o =>
      cases o with
      | none => simp [enc, dec]
      | some x =>
        simp only [wf] at hv
        simp only [enc, dec, List.cons_append]
        rw [if_neg (by decide), ih x r (by simpa [W.ok] using h) hv]
    | _ => exact hv.elim

/-! ### octets behind change nothing -/

theorem take_ext {l s : List UInt8} {n : Nat} (h : ¬ l.length < n) : (l ++ s).take n = l.take n := List.take_append_of_le_length (by omega)
theorem drop_ext {l s : List UInt8} {n : Nat} (h : ¬ l.length < n) : (l ++ s).drop n = l.drop n ++ s := List.drop_append_of_le_length (by omega)

theorem cntDec_ext {c : Bool} {p : Prim} {l s r : List UInt8} {n : Int} (h : cntDec c p l = some (n, r)) : cntDec c p (l ++ s) = some (n, r ++ s) := by
  unfold cntDec at h ⊢
  cases c with
  | true =>
    simp only [if_true] at h ⊢
    cases hu : uvDec l with
    | none => rw [hu] at h; cases h
    | some x => obtain ⟨x, l'⟩ := x; rw [hu] at h; rw [uvDec_ext hu]; simp at h ⊢; obtain ⟨rfl, rfl⟩ := h; exact ⟨rfl, rfl⟩
  | false =>
    simp only [Bool.false_eq_true, if_false] at h ⊢
    split at h
    · cases h
    · rename_i hl
      rw [if_neg (by simp; omega), take_ext hl, drop_ext hl]
      simp at h ⊢; obtain ⟨rfl, rfl⟩ := h; exact ⟨rfl, rfl⟩

theorem spanDec_ext {l s r : List UInt8} {n : Int} {v : Val} (h : spanDec n l = some (v, r)) : spanDec n (l ++ s) = some (v, r ++ s) := by
  unfold spanDec at h ⊢
  split at h
  · cases h
  · rename_i hl
    rw [if_neg (by simp; omega), take_ext (by omega), drop_ext (by omega)]
    simp at h ⊢; obtain ⟨rfl, rfl⟩ := h; exact ⟨rfl, rfl⟩

theorem primDec_ext {p : Prim} {l s r : List UInt8} {v : Val} (h : primDec p l = some (v, r)) : primDec p (l ++ s) = some (v, r ++ s) := by
  unfold primDec at h ⊢
  split at h
  · cases h
  · rename_i hl
    rw [if_neg (by simp; omega)]
    split at h
    · rename_i hp
      subst hp
      simp only [Prim.n] at hl
      rw [if_pos rfl, take_ext hl, drop_ext hl]
      simp at h ⊢; obtain ⟨rfl, rfl⟩ := h; exact ⟨rfl, rfl⟩
    · rename_i hp
      rw [if_neg hp, take_ext hl, drop_ext hl]
      simp at h ⊢; obtain ⟨rfl, rfl⟩ := h; exact ⟨rfl, rfl⟩

theorem strDec_ext {c nl : Bool} {l s r : List UInt8} {v : Val} (h : strDec c nl l = some (v, r)) : strDec c nl (l ++ s) = some (v, r ++ s) := by
  unfold strDec at h ⊢
  cases hc : cntDec c .i16 l with
  | none => rw [hc] at h; cases h
  | some x =>
    obtain ⟨n, l'⟩ := x
    rw [hc] at h; rw [cntDec_ext hc]
    simp only at h ⊢
    split at h
    · rename_i hn; rw [if_pos hn]; simp at h ⊢; obtain ⟨rfl, rfl⟩ := h; exact ⟨rfl, rfl⟩
    · rename_i hn; rw [if_neg hn]; exact spanDec_ext h

theorem bytDec_ext {c nl : Bool} {l s r : List UInt8} {v : Val} (h : bytDec c nl l = some (v, r)) : bytDec c nl (l ++ s) = some (v, r ++ s) := by
  unfold bytDec at h ⊢
  cases hc : cntDec c .i32 l with
  | none => rw [hc] at h; cases h
  | some x =>
    obtain ⟨n, l'⟩ := x
    rw [hc] at h; rw [cntDec_ext hc]
    simp only at h ⊢
    split at h
    · rename_i hnl
      rw [if_pos hnl]
      split at h
      · rename_i hn; rw [if_pos hn]; simp at h ⊢; obtain ⟨rfl, rfl⟩ := h; exact ⟨rfl, rfl⟩
      · rename_i hn; rw [if_neg hn]; exact spanDec_ext h
    · rename_i hnl
      rw [if_neg hnl]
      split at h
      · rename_i hn; rw [if_pos hn]; simp at h ⊢; obtain ⟨rfl, rfl⟩ := h; exact ⟨rfl, rfl⟩
      · rename_i hn; rw [if_neg hn]; exact spanDec_ext h

theorem lenDec_ext {c : Bool} {l s r : List UInt8} {n : Int} (h : lenDec c l = some (n, r)) : lenDec c (l ++ s) = some (n, r ++ s) := by
  unfold lenDec at h ⊢
  cases c with
  | true =>
    simp only [if_true] at h ⊢
    cases hu : uvDec l with
    | none => rw [hu] at h; cases h
    | some x =>
      obtain ⟨x, l'⟩ := x
      rw [hu] at h; rw [uvDec_ext hu]
      simp only at h ⊢
      generalize (if x ≤ 2147483648 then (x : Int) - 1 else (x : Int) - 4294967296 - 1) = q at h ⊢
      split at h
      · cases h
      · rename_i hq
        rw [if_neg (by simp; omega)]
        simp at h ⊢; obtain ⟨rfl, rfl⟩ := h; exact ⟨rfl, rfl⟩
  | false =>
    simp only [Bool.false_eq_true, if_false] at h ⊢
    split at h
    · cases h
    · rename_i hl
      rw [if_neg (by simp; omega), take_ext hl, drop_ext hl]
      split at h
      · cases h
      · rename_i hq
        rw [if_neg (by simp at hq ⊢; omega)]
        simp at h ⊢; obtain ⟨rfl, rfl⟩ := h; exact ⟨rfl, rfl⟩

theorem listDec_ext {f : List UInt8 → Option (Val × List UInt8)} (hf : ∀ l s v r, f l = some (v, r) → f (l ++ s) = some (v, r ++ s)) : ∀ (n : Nat) (l s : List UInt8) (vs : List Val) (r : List UInt8), listDec f n l = some (vs, r) → listDec f n (l ++ s) = some (vs, r ++ s) := by
  intro n
  induction n with
  | zero => intro l s vs r h; simp [listDec] at h ⊢; obtain ⟨rfl, rfl⟩ := h; exact ⟨rfl, rfl⟩
  | succ n ih =>
    intro l s vs r h
    simp only [listDec] at h ⊢
    cases hv : f l with
    | none => rw [hv] at h; cases h
    | some x =>
      obtain ⟨v, l1⟩ := x
      rw [hv] at h; rw [hf _ s _ _ hv]
      simp only at h ⊢
      cases hvs : listDec f n l1 with
      | none => rw [hvs] at h; cases h
      | some y =>
        obtain ⟨vs', l2⟩ := y
        rw [hvs] at h; rw [ih _ s _ _ hvs]
        simp at h ⊢; obtain ⟨rfl, rfl⟩ := h; exact ⟨rfl, rfl⟩

theorem dec_ext : ∀ (w : W) (l s : List UInt8) (v : Val) (r : List UInt8), dec w l = some (v, r) → dec w (l ++ s) = some (v, r ++ s) := by
  intro w
  induction w with
  | unit => intro l s v r h; simp only [dec, Option.some.injEq, Prod.mk.injEq] at h ⊢; obtain ⟨rfl, rfl⟩ := h; exact ⟨rfl, rfl⟩
  | pair a b iha ihb =>
    intro l s v r h
    simp only [dec] at h ⊢
    cases hv : dec a l with
    | none => rw [hv] at h; cases h
    | some x =>
      obtain ⟨x, l1⟩ := x
      rw [hv] at h; rw [iha _ s _ _ hv]
      simp only at h ⊢
      cases hb : dec b l1 with
      | none => rw [hb] at h; cases h
      | some y =>
        obtain ⟨y, l2⟩ := y
        rw [hb] at h; rw [ihb _ s _ _ hb]
        simp at h ⊢; obtain ⟨rfl, rfl⟩ := h; exact ⟨rfl, rfl⟩
  | tags =>
    intro l s v r h
    simp only [dec] at h ⊢
    cases hv : uvDec l with
    | none => rw [hv] at h; cases h
    | some x =>
      obtain ⟨n, l1⟩ := x
      rw [hv] at h; rw [uvDec_ext hv]
      simp only at h ⊢
      cases hb : decTags n [] l1 with
      | none => rw [hb] at h; cases h
      | some y =>
        obtain ⟨y, l2⟩ := y
        rw [hb] at h; rw [decTags_ext _ _ _ s _ _ hb]
        simp at h ⊢; obtain ⟨rfl, rfl⟩ := h; exact ⟨rfl, rfl⟩
  | prim p => intro l s v r h; exact primDec_ext h
  | str c nl => intro l s v r h; exact strDec_ext h
  | byt c nl => intro l s v r h; exact bytDec_ext h
  | arr c nl nr e ih =>
    intro l s v r h
    simp only [dec] at h ⊢
    cases hv : lenDec c l with
    | none => rw [hv] at h; cases h
    | some x =>
      obtain ⟨n, l1⟩ := x
      rw [hv] at h; rw [lenDec_ext hv]
      simp only at h ⊢
      split at h
      · rename_i hn; rw [if_pos hn]; simp at h ⊢; obtain ⟨rfl, rfl⟩ := h; exact ⟨rfl, rfl⟩
      · rename_i hn
        rw [if_neg hn]
        cases hb : listDec (dec e) n.toNat l1 with
        | none => rw [hb] at h; cases h
        | some y =>
          obtain ⟨y, l2⟩ := y
          rw [hb] at h; rw [listDec_ext ih _ _ s _ _ hb]
          simp at h ⊢; obtain ⟨rfl, rfl⟩ := h; exact ⟨rfl, rfl⟩
  | opt e ih =>
    intro l s v r h
    simp only [dec] at h ⊢
    cases l with
    | nil => cases h
    | cons b l =>
      simp only [List.cons_append] at h ⊢
      split at h
      · rename_i hb; rw [if_pos hb]; simp at h ⊢; obtain ⟨rfl, rfl⟩ := h; exact ⟨rfl, rfl⟩
      · rename_i hb
        rw [if_neg hb]
        cases hv : dec e l with
        | none => rw [hv] at h; cases h
        | some x =>
          obtain ⟨x, l1⟩ := x
          rw [hv] at h; rw [ih _ s _ _ hv]
          simp at h ⊢; obtain ⟨rfl, rfl⟩ := h; exact ⟨rfl, rfl⟩

/-- What is cut short is not read. -/
theorem dec_cut {w : W} {l q s : List UInt8} {v : Val} (h : dec w l = some (v, [])) (hl : l = q ++ s) (hs : s ≠ []) : dec w q = none := by
  cases hq : dec w q with
  | none => rfl
  | some x =>
    obtain ⟨x, r⟩ := x
    have := dec_ext w q s x r hq
    rw [← hl, h] at this
    simp at this
    exact absurd this.2.2 hs
end Go.Proofs.YtpefipjgcpchaaaGreatDoorR.Kf

namespace Go.Proofs.YtpefipjgcpchaaaGreatDoorR.Kf
set_option linter.unusedVariables false
set_option linter.unusedSimpArgs false

theorem uvEncF_le (j : Nat) : ∀ (k n : Nat), 1 ≤ k → n < 128 ^ k → (uvEncF j n).length ≤ k := by
  induction j with
  | zero => intro k n _ _; simp [uvEncF]
  | succ j ih =>
    intro k n hk hn
    simp only [uvEncF]
    split
    · simp; omega
    · rename_i h
      obtain ⟨k, rfl⟩ : ∃ i, k = i + 1 := ⟨k - 1, by omega⟩
      have hk1 : 1 ≤ k := by
        rcases Nat.eq_zero_or_pos k with rfl | h'
        · simp at hn; omega
        · exact h'
      have : n / 128 < 128 ^ k := by
        rw [Nat.pow_succ] at hn
        exact Nat.div_lt_of_lt_mul (by rw [Nat.mul_comm]; exact hn)
      have := ih k (n / 128) hk1 this
      simp; omega

theorem uvDecF_use (k : Nat) : ∀ (m : Nat) (l : List UInt8) (x : Nat) (r : List UInt8), 0 < m → uvDecF k m l = some (x, r) → ∃ j, 1 ≤ j ∧ l.length = r.length + j ∧ x < m * 128 ^ j := by
  induction k with
  | zero =>
    intro m l x r hm h
    cases l with
    | nil => simp [uvDecF] at h
    | cons b l =>
      simp only [uvDecF] at h
      split at h
      · rename_i hb
        simp at h; obtain ⟨rfl, rfl⟩ := h
        refine ⟨1, Nat.le_refl _, rfl, ?_⟩
        rw [Nat.mul_comm]
        exact Nat.mul_lt_mul_of_pos_left (by omega) hm
      · cases h
  | succ k ih =>
    intro m l x r hm h
    cases l with
    | nil => simp [uvDecF] at h
    | cons b l =>
      simp only [uvDecF] at h
      split at h
      · rename_i hb
        simp at h; obtain ⟨rfl, rfl⟩ := h
        refine ⟨1, Nat.le_refl _, rfl, ?_⟩
        rw [Nat.mul_comm]
        exact Nat.mul_lt_mul_of_pos_left (by omega) hm
      · cases hd : uvDecF k (m * 128) l with
        | none => rw [hd] at h; cases h
        | some y =>
          obtain ⟨y, r'⟩ := y
          rw [hd] at h
          simp at h
          obtain ⟨rfl, rfl⟩ := h
          obtain ⟨j, h1, h2, h3⟩ := ih (m * 128) l y r' (by omega) hd
          refine ⟨j + 1, by omega, by simp; omega, ?_⟩
          have hdv : ∀ (k m : Nat) (l : List UInt8) (x : Nat) (r : List UInt8), uvDecF k m l = some (x, r) → m ∣ x := by
            intro k
            induction k with
            | zero =>
              intro m l x r h
              cases l with
              | nil => simp [uvDecF] at h
              | cons b l =>
                simp only [uvDecF] at h
                split at h
                · simp at h; obtain ⟨rfl, _⟩ := h; exact Nat.dvd_mul_left _ _
                · cases h
            | succ k ih =>
              intro m l x r h
              cases l with
              | nil => simp [uvDecF] at h
              | cons b l =>
                simp only [uvDecF] at h
                split at h
                · simp at h; obtain ⟨rfl, _⟩ := h; exact Nat.dvd_mul_left _ _
                · cases hd : uvDecF k (m * 128) l with
                  | none => rw [hd] at h; cases h
                  | some y =>
                    obtain ⟨y, r'⟩ := y
                    rw [hd] at h
                    simp at h
                    obtain ⟨rfl, _⟩ := h
                    exact Nat.dvd_add (Nat.dvd_mul_left _ _) (Nat.dvd_trans (Nat.dvd_mul_right _ _) (ih _ _ _ _ hd))
          obtain ⟨q, rfl⟩ := hdv _ _ _ _ _ hd
          have hq : q < 128 ^ j := Nat.lt_of_mul_lt_mul_left h3
          have hb : b.toNat < 256 := b.toNat_lt
          have h5 : (b.toNat - 128) * m ≤ 127 * m := Nat.mul_le_mul_right _ (by omega)
          have h6 : m * 128 * (q + 1) ≤ m * 128 * 128 ^ j := Nat.mul_le_mul_left _ hq
          rw [Nat.mul_add, Nat.mul_one] at h6
          have h7 : m * 128 ^ (j + 1) = m * 128 * 128 ^ j := by rw [Nat.pow_succ, Nat.mul_comm (128 ^ j) 128, Nat.mul_assoc]
          rw [h7]
          omega

/-- A number in groups takes no more octets than it was read from. -/
theorem uv_use {l : List UInt8} {x : Nat} {r : List UInt8} (h : uvDec l = some (x, r)) : (uvEnc x).length + r.length ≤ l.length := by
  obtain ⟨j, h1, h2, h3⟩ := uvDecF_use 4 1 l x r (by decide) h
  have := uvEncF_le 10 j x h1 (by simpa using h3)
  unfold uvEnc
  omega
theorem uvEncF_mono (k : Nat) : ∀ (a b : Nat), a ≤ b → (uvEncF k a).length ≤ (uvEncF k b).length := by
  induction k with
  | zero => intro a b _; simp [uvEncF]
  | succ k ih =>
    intro a b h
    simp only [uvEncF]
    split
    · split <;> simp
    · rw [if_neg (by omega)]
      have := ih (a / 128) (b / 128) (Nat.div_le_div_right h)
      simp; omega
theorem uvEnc_mono {a b : Nat} (h : a ≤ b) : (uvEnc a).length ≤ (uvEnc b).length := uvEncF_mono _ _ _ h

theorem tset_use (k : Nat) (v : List UInt8) : ∀ l : List (Nat × List UInt8), (encTags (tset k v l)).length ≤ (encTags l).length + ((uvEnc k).length + ((uvEnc v.length).length + v.length)) ∧ (tset k v l).length ≤ l.length + 1 := by
  intro l
  induction l with
  | nil => simp [tset, encTags]
  | cons x l ih =>
    obtain ⟨j, u⟩ := x
    unfold tset
    split
    · simp [encTags]; omega
    · split
      · rename_i hj; subst hj; simp [encTags]; omega
      · simp [encTags]; omega
theorem decTags_use (n : Nat) : ∀ (acc : List (Nat × List UInt8)) (l : List UInt8) (x : List (Nat × List UInt8)) (r : List UInt8), decTags n acc l = some (x, r) → (encTags x).length + r.length ≤ (encTags acc).length + l.length ∧ x.length ≤ acc.length + n := by
  induction n with
  | zero => intro acc l x r e; simp [decTags] at e; obtain ⟨rfl, rfl⟩ := e; exact ⟨Nat.le_refl _, Nat.le_refl _⟩
  | succ n ih =>
    intro acc l x r e
    simp only [decTags] at e
    split at e
    · cases e
    · rename_i k l1 hk
      split at e
      · cases e
      · rename_i m l2 hm
        split at e
        · cases e
        · rename_i hlen
          have h1 := ih _ _ _ _ e
          have h2 := tset_use k (l2.take m) acc
          have h3 := uv_use hk
          have h4 := uv_use hm
          have h5 : (l2.take m).length = m := by simp; omega
          rw [h5] at h2
          simp at h1
          omega

theorem conv_rng' (p : Prim) (hp : p ≠ .uuid) (l : List UInt8) (hl : l.length = p.n) : p.lo ≤ p.conv (beDec l) ∧ p.conv (beDec l) < p.hi := by
  have h := beDec_lt l
  rw [hl] at h
  generalize beDec l = m at h
  cases p <;> simp only [Prim.n, Prim.lo, Prim.hi, Prim.conv] at * <;> first | exact absurd rfl hp | skip
  all_goals (try split) <;> omega

/-- What a count comes to. -/
theorem cnt_use {c : Bool} {p : Prim} {l : List UInt8} {n : Int} {r : List UInt8} (hp : p = .i16 ∨ p = .i32) (h : cntDec c p l = some (n, r)) :
    r.length ≤ l.length ∧ (n < 0 → (cntEnc c p.n none).length + r.length ≤ l.length) ∧ (cntEnc c p.n (some 0)).length + r.length ≤ l.length ∧ (0 ≤ n → (cntEnc c p.n (some n.toNat)).length + r.length ≤ l.length) ∧ n < 4294967295 ∧ (c = false → n < p.hi) := by
  cases c
  · simp only [cntDec, Bool.false_eq_true, if_false] at h
    split at h
    · cases h
    · rename_i hl
      injection h with h
      injection h with h1 h2
      have hr : r.length + p.n = l.length := by rw [← h2]; simp; omega
      have hn : n < p.hi := by rw [← h1]; exact (conv_rng' p (by rcases hp with rfl | rfl <;> decide) _ (by simp; omega)).2
      refine ⟨by omega, ?_, ?_, ?_, ?_, fun _ => hn⟩
      · intro _; simp only [cntEnc, beEnc_length]; omega
      · simp only [cntEnc, beEnc_length]; omega
      · intro _; simp only [cntEnc, beEnc_length]; omega
      · rcases hp with rfl | rfl <;> simp only [Prim.hi] at hn <;> omega
  · simp only [cntDec, if_true] at h
    cases hu : uvDec l with
    | none => rw [hu] at h; cases h
    | some x =>
      obtain ⟨u, r'⟩ := x
      rw [hu] at h
      simp at h
      obtain ⟨rfl, rfl⟩ := h
      have h1 := uv_use hu
      have h2 := uvEnc_pos u
      have h3 := uvDec_lt hu
      refine ⟨by omega, ?_, ?_, ?_, by omega, fun h => by cases h⟩
      · intro _; simp only [cntEnc, List.length_cons, List.length_nil]; omega
      · show (uvEnc 1).length + r'.length ≤ _
        have : (uvEnc 1).length = 1 := rfl
        omega
      · intro h0
        show (uvEnc (((u : Int) - 1).toNat + 1)).length + r'.length ≤ _
        have : ((u : Int) - 1).toNat + 1 = u := by omega
        rw [this]; exact h1
theorem len_use {c : Bool} {l : List UInt8} {n : Int} {r : List UInt8} (h : lenDec c l = some (n, r)) :
    r.length ≤ l.length ∧ n ≤ r.length ∧ (n < 0 → (cntEnc c 4 none).length + r.length ≤ l.length) ∧ (cntEnc c 4 (some n.toNat)).length + r.length ≤ l.length := by
  cases c
  · simp only [lenDec, Bool.false_eq_true, if_false] at h
    split at h
    · cases h
    · rename_i hl
      split at h
      · cases h
      · rename_i hb
        injection h with h
        injection h with h1 h2
        subst h1 h2
        refine ⟨by simp, by omega, fun _ => ?_, ?_⟩ <;> simp only [cntEnc, beEnc_length] <;> simp <;> omega
  · simp only [lenDec, if_true] at h
    cases hu : uvDec l with
    | none => rw [hu] at h; cases h
    | some x =>
      obtain ⟨u, r'⟩ := x
      rw [hu] at h
      simp only at h
      have h1 := uv_use hu
      have h2 := uvEnc_pos u
      have h3 := uvDec_lt hu
      generalize hv : (if u ≤ 2147483648 then (u : Int) - 1 else (u : Int) - 4294967296 - 1) = v at h
      have h6 : v.toNat + 1 ≤ u ∨ v.toNat = 0 := by rw [← hv]; split <;> omega
      by_cases hb : (r'.length : Int) < v
      · rw [if_pos hb] at h; cases h
      · rw [if_neg hb] at h
        injection h with h
        injection h with h4 h5
        subst h5
        subst h4
        refine ⟨by omega, by omega, fun _ => ?_, ?_⟩
        · simp only [cntEnc, List.length_cons, List.length_nil]; omega
        · show (uvEnc (v.toNat + 1)).length + r'.length ≤ _
          rcases h6 with h6 | h6
          · have := uvEnc_mono h6; omega
          · rw [h6]
            have : (uvEnc (0 + 1)).length = 1 := rfl
            omega

theorem span_use {n : Int} {l : List UInt8} {x : Val} {r : List UInt8} (h : spanDec n l = some (x, r)) : 0 ≤ n ∧ n ≤ l.length ∧ x = .bytes (some (l.take n.toNat)) ∧ r = l.drop n.toNat ∧ (l.take n.toNat).length = n.toNat := by
  unfold spanDec at h
  split at h
  · cases h
  · injection h with h
    injection h with h1 h2
    exact ⟨by omega, by omega, h1.symm, h2.symm, by simp; omega⟩

theorem list_use {e : W} (he : ∀ l x r, dec e l = some (x, r) → l.length ≤ 32767 → wf e x ∧ (enc e x).length + r.length ≤ l.length) : ∀ (n : Nat) (l : List UInt8) (vs : List Val) (r : List UInt8), listDec (dec e) n l = some (vs, r) → l.length ≤ 32767 →
    vs.length = n ∧ (∀ v ∈ vs, wf e v) ∧ ((vs.map (enc e)).flatten).length + r.length ≤ l.length := by
  intro n
  induction n with
  | zero => intro l vs r h _; simp [listDec] at h; obtain ⟨rfl, rfl⟩ := h; simp
  | succ n ih =>
    intro l vs r h hl
    simp only [listDec] at h
    split at h
    · cases h
    · rename_i v l1 h1
      split at h
      · cases h
      · rename_i vs' l2 h2
        injection h with h
        injection h with h3 h4
        subst h3 h4
        obtain ⟨a1, a2⟩ := he _ _ _ h1 hl
        obtain ⟨b1, b2, b3⟩ := ih _ _ _ h2 (by omega)
        refine ⟨by simp [b1], fun v hv => ?_, by simp at b3 ⊢; omega⟩
        rcases List.mem_cons.1 hv with rfl | hv
        · exact a1
        · exact b2 v hv

theorem dec_use : ∀ (w : W) (l : List UInt8) (x : Val) (r : List UInt8), dec w l = some (x, r) → l.length ≤ 32767 → wf w x ∧ (enc w x).length + r.length ≤ l.length := by
  intro w
  induction w with
  | unit => intro l x r h _; simp [dec] at h; obtain ⟨rfl, rfl⟩ := h; exact ⟨rfl, by simp [enc]⟩
  | pair a b iha ihb =>
    intro l x r h hl
    simp only [dec] at h
    split at h
    · cases h
    · rename_i y l1 h1
      split at h
      · cases h
      · rename_i z l2 h2
        injection h with h
        injection h with h3 h4
        subst h3 h4
        obtain ⟨a1, a2⟩ := iha _ _ _ h1 hl
        obtain ⟨b1, b2⟩ := ihb _ _ _ h2 (by omega)
        exact ⟨⟨a1, b1⟩, by simp only [enc, List.length_append]; omega⟩
  | tags =>
    intro l x r h hl
    simp only [dec] at h
    split at h
    · cases h
    · rename_i n l1 h1
      split at h
      · cases h
      · rename_i t l2 h2
        injection h with h
        injection h with h3 h4
        subst h3 h4
        have u1 := uv_use h1
        have u2 := decTags_use _ _ _ _ _ h2
        have u3 := uvDec_lt h1
        have u4 := uvEnc_mono (a := t.length) (b := n) (by simpa using u2.2)
        refine ⟨⟨decTags_up _ [] _ _ _ trivial h2, by have := u2.2; simp at this; omega⟩, ?_⟩
        simp only [enc, List.length_append]
        have := u2.1
        simp [encTags] at this
        omega
  | prim p =>
    intro l x r h hl
    simp only [dec, primDec] at h
    split at h
    · cases h
    · rename_i hn
      split at h
      · rename_i hp
        subst hp
        injection h with h
        injection h with h3 h4
        subst h3 h4
        simp only [Prim.n] at hn
        exact ⟨⟨rfl, by simp; omega⟩, by simp [enc]; omega⟩
      · rename_i hp
        injection h with h
        injection h with h3 h4
        subst h3 h4
        have := conv_rng' p hp (l.take p.n) (by simp; omega)
        exact ⟨⟨hp, this.1, this.2⟩, by simp [enc, beEnc_length]; omega⟩
  | str c nl =>
    intro l x r h hl
    simp only [dec, strDec] at h
    split at h
    · cases h
    · rename_i n l1 h1
      obtain ⟨c1, c2, c3, c4, c5, c6⟩ := cnt_use (.inl rfl) h1
      split at h
      · rename_i hn
        injection h with h
        injection h with h3 h4
        subst h3 h4
        exact ⟨hn.2, by have := c2 hn.1; simp [enc]; exact this⟩
      · obtain ⟨s1, s2, rfl, rfl, s5⟩ := span_use h
        refine ⟨by show (l1.take n.toNat).length ≤ 32767; omega, ?_⟩
        have := c4 s1
        simp only [enc, Option.map_some, Option.getD_some, List.length_append, s5, List.length_drop]
        have e : Prim.i16.n = 2 := rfl
        rw [e] at this
        omega
  | byt c nl =>
    intro l x r h hl
    simp only [dec, bytDec] at h
    split at h
    · cases h
    · rename_i n l1 h1
      obtain ⟨c1, c2, c3, c4, c5, c6⟩ := cnt_use (.inr rfl) h1
      have e : Prim.i32.n = 4 := rfl
      rw [e] at c2 c3 c4
      have sp : ∀ x r, spanDec n l1 = some (x, r) → wf (.byt c nl) x ∧ (enc (.byt c nl) x).length + r.length ≤ l.length := by
        intro x r h
        obtain ⟨s1, s2, rfl, rfl, s5⟩ := span_use h
        refine ⟨by show (l1.take n.toNat).length ≤ 2147483646; omega, ?_⟩
        have := c4 s1
        simp only [enc, Option.map_some, Option.getD_some, List.length_append, s5, List.length_drop]
        omega
      split at h
      · rename_i hnl
        split at h
        · rename_i hn
          injection h with h
          injection h with h3 h4
          subst h3 h4
          exact ⟨hnl, by have := c2 hn; simp [enc]; exact this⟩
        · exact sp _ _ h
      · split at h
        · injection h with h
          injection h with h3 h4
          subst h3 h4
          exact ⟨by simp [wf], by simp [enc]; exact c3⟩
        · exact sp _ _ h
  | arr c nl nr e ih =>
    intro l x r h hl
    simp only [dec] at h
    split at h
    · cases h
    · rename_i n l1 h1
      obtain ⟨c1, c2, c3, c4⟩ := len_use h1
      split at h
      · rename_i hn
        injection h with h
        injection h with h3 h4
        subst h3 h4
        exact ⟨⟨hn.2.1, hn.2.2⟩, by have := c3 hn.1; simp [enc]; exact this⟩
      · split at h
        · cases h
        · rename_i vs l2 h2
          injection h with h
          injection h with h3 h4
          subst h3 h4
          obtain ⟨a1, a2, a3⟩ := list_use ih _ _ _ _ h2 (by omega)
          refine ⟨⟨by omega, a2⟩, ?_⟩
          simp only [enc, Option.map_some, Option.getD_some, List.length_append, a1]
          omega
  | opt e ih =>
    intro l x r h hl
    simp only [dec] at h
    split at h
    · cases h
    · rename_i b l1
      split at h
      · injection h with h
        injection h with h3 h4
        subst h3 h4
        exact ⟨trivial, by simp [enc]; omega⟩
      · split at h
        · cases h
        · rename_i v l2 h2
          injection h with h
          injection h with h3 h4
          subst h3 h4
          simp at hl
          obtain ⟨a1, a2⟩ := ih _ _ _ h2 (by omega)
          exact ⟨a1, by simp [enc]; omega⟩
end Go.Proofs.YtpefipjgcpchaaaGreatDoorR.Kf

namespace Go.Proofs.YtpefipjgcpchaaaGreatDoorR.Kf
set_option linter.unusedVariables false
set_option linter.unusedSimpArgs false

inductive Fld
  | mk (kind : Nat) (fr to nu tag df : Int) (of : Nat) (sub : List Fld)
inductive Tr
  | mk (n : Int) (s : List UInt8) (nl : Bool) (l : List Tr) (u : List (Nat × List UInt8))

def Fld.kind : Fld → Nat | .mk k _ _ _ _ _ _ _ => k
def Fld.fr : Fld → Int | .mk _ a _ _ _ _ _ _ => a
def Fld.to : Fld → Int | .mk _ _ a _ _ _ _ _ => a
def Fld.nu : Fld → Int | .mk _ _ _ a _ _ _ _ => a
def Fld.tag : Fld → Int | .mk _ _ _ _ a _ _ _ => a
def Fld.df : Fld → Int | .mk _ _ _ _ _ a _ _ => a
def Fld.of : Fld → Nat | .mk _ _ _ _ _ _ a _ => a
def Fld.sub : Fld → List Fld | .mk _ _ _ _ _ _ _ a => a
def Tr.n : Tr → Int | .mk a _ _ _ _ => a
def Tr.s : Tr → List UInt8 | .mk _ a _ _ _ => a
def Tr.nl : Tr → Bool | .mk _ _ a _ _ => a
def Tr.l : Tr → List Tr | .mk _ _ _ a _ => a
def Tr.u : Tr → List (Nat × List UInt8) | .mk _ _ _ _ a => a

def tr0 : Tr := .mk 0 [] false [] []
def most : Nat := 32767

/-- A version has the field. -/
def hasV (fr to v : Int) : Bool := decide (fr ≤ v) && (decide (to < 0) || decide (v ≤ to))
/-- A field may be null at a version. -/
def mayN (nu v : Int) : Bool := decide (0 ≤ nu) && decide (nu ≤ v)

def kPrim : Nat → Prim
  | 0 => .bool | 1 => .i8 | 2 => .i16 | 3 => .i32 | 5 => .u16 | 6 => .f64 | 7 => .uuid | _ => .i64

/-! ### unknown tags -/

def insU (x : Nat × List UInt8) : List (Nat × List UInt8) → List (Nat × List UInt8)
  | [] => [x]
  | y :: l => if y.1 < x.1 then y :: insU x l else if y.1 = x.1 then y :: l else x :: y :: l
def unkS (least : Nat) (l : List (Nat × List UInt8)) : List (Nat × List UInt8) :=
  (l.take most).foldl (fun out x => if x.1 < least then out else insU x out) []
/-- .. with as many octets as are written. -/
def unkV (l : List (Nat × List UInt8)) : List (Nat × List UInt8) := (unkS 0 l).map fun x => (x.1, x.2.take most)

theorem insU_up (x : Nat × List UInt8) (hx : x.1 < 4294967296) : ∀ (b : Nat) (l : List (Nat × List UInt8)), b ≤ x.1 → (upTags b (l.map fun y => (y.1, y.2.take most))) → upTags b ((insU x l).map fun y => (y.1, y.2.take most)) := by
  intro b l
  induction l generalizing b with
  | nil => intro hb _; simp [insU, upTags, hx, hb, most]; omega
  | cons y l ih =>
    intro hb h
    simp only [List.map_cons, upTags] at h
    obtain ⟨h1, h2, h3, h4⟩ := h
    unfold insU
    split
    · rename_i hlt
      simp only [List.map_cons, upTags]
      exact ⟨h1, h2, h3, ih (y.1 + 1) (by omega) h4⟩
    · split
      · simp only [List.map_cons, upTags]
        exact ⟨h1, h2, h3, h4⟩
      · rename_i h5 h6
        simp only [List.map_cons, upTags]
        refine ⟨hb, hx, ?_, by omega, h2, h3, h4⟩
        simp [most]; omega

theorem unk_up_aux : ∀ (l acc : List (Nat × List UInt8)), (∀ x ∈ l, x.1 < 4294967296) → upTags 0 (acc.map fun y => (y.1, y.2.take most)) →
    upTags 0 ((l.foldl (fun out x => if x.1 < 0 then out else insU x out) acc).map fun y => (y.1, y.2.take most)) := by
  intro l
  induction l with
  | nil => intro acc _ h; exact h
  | cons x l ih =>
    intro acc hl h
    simp only [List.foldl_cons]
    refine ih _ (fun y hy => hl y (by simp [hy])) ?_
    rw [if_neg (by omega)]
    exact insU_up x (hl x (by simp)) 0 acc (by omega) h

theorem unkV_up (l : List (Nat × List UInt8)) (hl : ∀ x ∈ l, x.1 < 4294967296) : upTags 0 (unkV l) := by
  unfold unkV unkS
  exact unk_up_aux _ [] (fun x hx => hl x (List.mem_of_mem_take hx)) trivial

theorem insU_len (x : Nat × List UInt8) : ∀ l : List (Nat × List UInt8), (insU x l).length ≤ l.length + 1 := by
  intro l
  induction l with
  | nil => simp [insU]
  | cons y l ih =>
    unfold insU
    split
    · simp; omega
    · split <;> simp

theorem unk_len_aux (b : Nat) : ∀ (l acc : List (Nat × List UInt8)), (l.foldl (fun out x => if x.1 < b then out else insU x out) acc).length ≤ acc.length + l.length := by
  intro l
  induction l with
  | nil => intro acc; simp
  | cons x l ih =>
    intro acc
    simp only [List.foldl_cons, List.length_cons]
    refine Nat.le_trans (ih _) ?_
    split
    · omega
    · have := insU_len x acc; omega

theorem unkV_len (l : List (Nat × List UInt8)) : (unkV l).length ≤ most := by
  unfold unkV unkS
  have := unk_len_aux 0 (l.take most) []
  simp at this ⊢
  omega

/-! ### what is written -/

def scalB (kind : Nat) (nl flex : Bool) (t : Tr) : List UInt8 :=
  if kind = 0 then beEnc 1 (t.n % 2)
  else if kind = 7 then t.s.take 16 ++ List.replicate (16 - t.s.length) 0
  else if kind = 8 then cntEnc flex 2 (if nl then none else some (t.s.take most).length) ++ (if nl then [] else t.s.take most)
  else if kind = 9 then cntEnc flex 4 (if nl then none else some (t.s.take most).length) ++ (if nl then [] else t.s.take most)
  else beEnc (kPrim kind).n t.n
def scalW (kind : Nat) (nl flex : Bool) : W :=
  if kind = 8 then .str flex nl else if kind = 9 then .byt flex nl else .prim (kPrim kind)
def scalV (kind : Nat) (nl : Bool) (t : Tr) : Val :=
  if kind = 0 then .int (t.n % 2)
  else if kind = 7 then .bytes (some (t.s.take 16 ++ List.replicate (16 - t.s.length) 0))
  else if kind = 8 then .bytes (if nl then none else some (t.s.take most))
  else if kind = 9 then .bytes (if nl then none else some (t.s.take most))
  else .int ((kPrim kind).conv (t.n % 256 ^ (kPrim kind).n).toNat)

theorem beEnc_mod : ∀ (n : Nat) (x y : Int), x % 256 ^ n = y % 256 ^ n → beEnc n x = beEnc n y := by
  intro n
  induction n with
  | zero => intro x y _; rfl
  | succ n ih =>
    intro x y h
    have hp : (0 : Int) < 256 ^ n := Int.pow_pos (by decide)
    have e : (256 : Int) ^ (n + 1) = 256 ^ n * 256 := Int.pow_succ _ _
    rw [e] at h
    have key : ∀ z : Int, z % (256 ^ n * 256) = z % 256 ^ n + 256 ^ n * (z / 256 ^ n % 256) := by
      intro z
      have a := Int.mul_ediv_add_emod z (256 ^ n)
      have b := Int.mul_ediv_add_emod (z / 256 ^ n) 256
      have r0 : 0 ≤ z % 256 ^ n := Int.emod_nonneg _ (by omega)
      have r1 : z % 256 ^ n < 256 ^ n := Int.emod_lt_of_pos _ hp
      have q0 : 0 ≤ z / 256 ^ n % 256 := Int.emod_nonneg _ (by decide)
      have q1 : z / 256 ^ n % 256 < 256 := Int.emod_lt_of_pos _ (by decide)
      have c : z = (z % 256 ^ n + 256 ^ n * (z / 256 ^ n % 256)) + 256 ^ n * 256 * (z / 256 ^ n / 256) := by
        have d : 256 ^ n * (256 * (z / 256 ^ n / 256) + z / 256 ^ n % 256) = 256 ^ n * (z / 256 ^ n) := by rw [b]
        rw [Int.mul_add, ← Int.mul_assoc] at d
        omega
      have f := congrArg (· % ((256 : Int) ^ n * 256)) c
      simp only [Int.add_mul_emod_self_left] at f
      rw [f]
      apply Int.emod_eq_of_lt
      · have := Int.mul_nonneg (Int.le_of_lt hp) q0; omega
      · have g : 256 ^ n * (z / 256 ^ n % 256) ≤ 256 ^ n * 255 := Int.mul_le_mul_of_nonneg_left (by omega) (Int.le_of_lt hp)
        have : (256 : Int) ^ n * 256 = 256 ^ n * 255 + 256 ^ n := by rw [show (256 : Int) = 255 + 1 from rfl, Int.mul_add]; simp
        omega
    rw [key x, key y] at h
    have rx0 : 0 ≤ x % 256 ^ n := Int.emod_nonneg _ (by omega)
    have rx1 : x % 256 ^ n < 256 ^ n := Int.emod_lt_of_pos _ hp
    have ry0 : 0 ≤ y % 256 ^ n := Int.emod_nonneg _ (by omega)
    have ry1 : y % 256 ^ n < 256 ^ n := Int.emod_lt_of_pos _ hp
    have h1 : x % 256 ^ n = y % 256 ^ n := by
      have := congrArg (· % ((256 : Int) ^ n)) h
      simp only [Int.add_mul_emod_self_left] at this
      rwa [Int.emod_eq_of_lt rx0 rx1, Int.emod_eq_of_lt ry0 ry1] at this
    have h2 : x / 256 ^ n % 256 = y / 256 ^ n % 256 := by
      rw [h1] at h
      have : (256 : Int) ^ n * (x / 256 ^ n % 256) = 256 ^ n * (y / 256 ^ n % 256) := by omega
      exact Int.eq_of_mul_eq_mul_left (by omega) this
    simp only [beEnc]
    rw [ih x y h1]
    unfold byteOf
    rw [h2]

theorem conv_mod (p : Prim) (hp : p ≠ .uuid) (hb : p ≠ .bool) (x : Int) : p.conv (x % 256 ^ p.n).toNat % 256 ^ p.n = x % 256 ^ p.n ∧ p.lo ≤ p.conv (x % 256 ^ p.n).toNat ∧ p.conv (x % 256 ^ p.n).toNat < p.hi := by
  cases p <;> first | exact absurd rfl hp | exact absurd rfl hb | (simp only [Prim.n, Prim.conv, Prim.lo, Prim.hi]; (try split) <;> omega)

/-- What is written of a value of a kind is its wire form. -/
theorem scal_enc (kind : Nat) (nl flex : Bool) (p : Bool) (t : Tr) : enc (scalW kind p flex) (scalV kind nl t) = scalB kind nl flex t := by
  unfold scalW scalV scalB
  by_cases h0 : kind = 0
  · subst h0; rfl
  rw [if_neg h0, if_neg h0]
  by_cases h7 : kind = 7
  · subst h7; rfl
  rw [if_neg h7, if_neg h7]
  by_cases h8 : kind = 8
  · subst h8; cases nl <;> simp [enc]
  rw [if_neg h8, if_neg h8, if_neg h8]
  by_cases h9 : kind = 9
  · subst h9; cases nl <;> simp [enc]
  rw [if_neg h9, if_neg h9, if_neg h9]
  simp only [enc]
  have hk : kPrim kind ≠ .uuid ∧ kPrim kind ≠ .bool := by
    unfold kPrim
    split <;> first | exact absurd rfl h0 | exact absurd rfl h7 | exact ⟨by decide, by decide⟩
  exact beEnc_mod _ _ _ (conv_mod _ hk.1 hk.2 t.n).1

theorem scal_wf (kind : Nat) (nl flex p : Bool) (t : Tr) (h : nl = true → p = true) : wf (scalW kind p flex) (scalV kind nl t) := by
  unfold scalW scalV
  by_cases h0 : kind = 0
  · subst h0
    simp only [if_pos, show ¬ (0 : Nat) = 8 by decide, show ¬ (0 : Nat) = 9 by decide, if_false, wf, kPrim, Prim.lo, Prim.hi]
    exact ⟨by decide, by omega, by omega⟩
  rw [if_neg h0]
  by_cases h7 : kind = 7
  · subst h7
    simp only [if_pos, show ¬ (7 : Nat) = 8 by decide, show ¬ (7 : Nat) = 9 by decide, if_false, wf, kPrim]
    exact ⟨trivial, by simp; omega⟩
  rw [if_neg h7]
  by_cases h8 : kind = 8
  · subst h8
    cases nl
    · simp [wf, most]; omega
    · simp [wf, h rfl]
  rw [if_neg h8, if_neg h8]
  by_cases h9 : kind = 9
  · subst h9
    cases nl
    · simp [wf, most]; omega
    · simp [wf, h rfl]
  rw [if_neg h9, if_neg h9]
  have hk : kPrim kind ≠ .uuid ∧ kPrim kind ≠ .bool := by
    unfold kPrim
    split <;> first | exact absurd rfl h0 | exact absurd rfl h7 | exact ⟨by decide, by decide⟩
  have := conv_mod _ hk.1 hk.2 t.n
  exact ⟨hk.1, this.2.1, this.2.2⟩

mutual
def fieldB : Fld → Int → Bool → Tr → List UInt8
  | .mk kind _ _ nu _ _ of sub, v, flex, t =>
    if kind = 11 then
      cntEnc flex 4 (if t.nl && mayN nu v then none else some (t.l.take most).length) ++
        (if t.nl && mayN nu v then [] else ((t.l.take most).map fun x => if of = 10 then fieldsB sub v flex x.l ++ (if flex then uvEnc (unkV x.u).length ++ encTags (unkV x.u) else []) else scalB of false flex x).flatten)
    else if kind = 10 then
      if 0 ≤ nu then (if t.nl && mayN nu v then [255] else 1 :: (fieldsB sub v flex t.l ++ (if flex then uvEnc (unkV t.u).length ++ encTags (unkV t.u) else [])))
      else fieldsB sub v flex t.l ++ (if flex then uvEnc (unkV t.u).length ++ encTags (unkV t.u) else [])
    else scalB kind (t.nl && mayN nu v) flex t
def fieldsB : List Fld → Int → Bool → List Tr → List UInt8
  | [], _, _, _ => []
  | f :: fs, v, flex, l => (if hasV f.fr f.to v then fieldB f v flex (l.headD tr0) else []) ++ fieldsB fs v flex l.tail
end
def partB (fs : List Fld) (v : Int) (flex : Bool) (t : Tr) : List UInt8 := fieldsB fs v flex t.l ++ (if flex then uvEnc (unkV t.u).length ++ encTags (unkV t.u) else [])

mutual
def fieldW : Fld → Int → Bool → W
  | .mk kind _ _ nu _ _ of sub, v, flex =>
    if kind = 11 then .arr flex (mayN nu v) (mayN nu v) (if of = 10 then fieldsW sub v flex else scalW of false flex)
    else if kind = 10 then (if 0 ≤ nu then .opt (fieldsW sub v flex) else fieldsW sub v flex)
    else scalW kind (mayN nu v) flex
def fieldsW : List Fld → Int → Bool → W
  | [], _, flex => if flex then .pair .tags .unit else .unit
  | f :: fs, v, flex => if hasV f.fr f.to v then .pair (fieldW f v flex) (fieldsW fs v flex) else fieldsW fs v flex
end

mutual
def fieldV : Fld → Int → Bool → Tr → Val
  | .mk kind _ _ nu _ _ of sub, v, flex, t =>
    if kind = 11 then .list (if t.nl && mayN nu v then none else some ((t.l.take most).map fun x => if of = 10 then fieldsV sub v flex x.l x.u else scalV of false x))
    else if kind = 10 then
      if 0 ≤ nu then .opt (if t.nl && mayN nu v then none else some (fieldsV sub v flex t.l t.u))
      else fieldsV sub v flex t.l t.u
    else scalV kind (t.nl && mayN nu v) t
def fieldsV : List Fld → Int → Bool → List Tr → List (Nat × List UInt8) → Val
  | [], _, flex, _, u => if flex then .pair (.tags (unkV u)) .unit else .unit
  | f :: fs, v, flex, l, u => if hasV f.fr f.to v then .pair (fieldV f v flex (l.headD tr0)) (fieldsV fs v flex l.tail u) else fieldsV fs v flex l.tail u
end

mutual
theorem fieldB_enc : ∀ (f : Fld) (v : Int) (flex : Bool) (t : Tr), enc (fieldW f v flex) (fieldV f v flex t) = fieldB f v flex t
  | .mk kind _ _ nu _ _ of sub, v, flex, t => by
    simp only [fieldW, fieldV, fieldB]
    by_cases h11 : kind = 11
    · simp only [if_pos h11]
      cases hn : (t.nl && mayN nu v)
      · simp only [Bool.false_eq_true, if_false, enc, Option.map_some, List.length_map, Option.getD_some, List.map_map]
        congr 2
        apply List.map_congr_left
        intro x _
        by_cases h10 : of = 10
        · simp only [Function.comp, if_pos h10]
          exact fieldsB_enc sub v flex x.l x.u
        · simp only [Function.comp, if_neg h10]
          exact scal_enc _ _ _ _ _
      · simp [enc]
    · simp only [if_neg h11]
      by_cases h10 : kind = 10
      · simp only [if_pos h10]
        by_cases h0 : 0 ≤ nu
        · simp only [if_pos h0]
          cases hn : (t.nl && mayN nu v)
          · simp only [Bool.false_eq_true, if_false, enc]
            rw [fieldsB_enc sub v flex t.l t.u]
          · simp [enc]
        · simp only [if_neg h0]
          exact fieldsB_enc sub v flex t.l t.u
      · simp only [if_neg h10]
        exact scal_enc _ _ _ _ _
theorem fieldsB_enc : ∀ (fs : List Fld) (v : Int) (flex : Bool) (l : List Tr) (u : List (Nat × List UInt8)),
    enc (fieldsW fs v flex) (fieldsV fs v flex l u) = fieldsB fs v flex l ++ (if flex then uvEnc (unkV u).length ++ encTags (unkV u) else [])
  | [], v, flex, l, u => by
    cases flex <;> simp [fieldsW, fieldsV, fieldsB, enc]
  | f :: fs, v, flex, l, u => by
    simp only [fieldsW, fieldsV, fieldsB]
    split
    · simp only [enc]
      rw [fieldB_enc f v flex _, fieldsB_enc fs v flex l.tail u, List.append_assoc]
    · simp only [List.nil_append]
      exact fieldsB_enc fs v flex l.tail u
end

/-- The trees' tags have numbers of 32 bits. -/
inductive TrOk : Tr → Prop
  | mk {n s nl l u} : (∀ x ∈ u, x.1 < 4294967296) → (∀ t ∈ l, TrOk t) → TrOk (.mk n s nl l u)
theorem TrOk.l {t : Tr} (h : TrOk t) : ∀ x ∈ t.l, TrOk x := by cases h with | mk _ h => exact h
theorem TrOk.u {t : Tr} (h : TrOk t) : ∀ x ∈ t.u, x.1 < 4294967296 := by cases h with | mk h _ => exact h
theorem TrOk.zero : TrOk tr0 := .mk (by simp) (by simp)

theorem TrOk.head {l : List Tr} (h : ∀ x ∈ l, TrOk x) : TrOk (l.headD tr0) := by
  cases l with
  | nil => exact TrOk.zero
  | cons a l => exact h a (by simp)

mutual
theorem fieldV_wf : ∀ (f : Fld) (v : Int) (flex : Bool) (t : Tr), TrOk t → wf (fieldW f v flex) (fieldV f v flex t)
  | .mk kind _ _ nu _ _ of sub, v, flex, t, ht => by
    simp only [fieldW, fieldV]
    by_cases h11 : kind = 11
    · simp only [if_pos h11]
      cases hn : (t.nl && mayN nu v)
      · simp only [Bool.false_eq_true, if_false, wf, List.length_map, most]
        refine ⟨by simp; omega, ?_⟩
        intro y hy
        simp only [List.mem_map] at hy
        obtain ⟨x, hx, rfl⟩ := hy
        have hx' := ht.l x (List.mem_of_mem_take hx)
        by_cases h10 : of = 10
        · simp only [if_pos h10]
          exact fieldsV_wf sub v flex x.l x.u hx'.l hx'.u
        · simp only [if_neg h10]
          exact scal_wf _ _ _ _ _ id
      · have : mayN nu v = true := by revert hn; cases mayN nu v <;> simp
        simp [wf, this]
    · simp only [if_neg h11]
      by_cases h10 : kind = 10
      · simp only [if_pos h10]
        by_cases h0 : 0 ≤ nu
        · simp only [if_pos h0]
          cases hn : (t.nl && mayN nu v)
          · simp only [Bool.false_eq_true, if_false, wf]
            exact fieldsV_wf sub v flex t.l t.u ht.l ht.u
          · simp [wf]
        · simp only [if_neg h0]
          exact fieldsV_wf sub v flex t.l t.u ht.l ht.u
      · simp only [if_neg h10]
        exact scal_wf _ _ _ _ _ (fun h => by revert h; cases mayN nu v <;> simp)
theorem fieldsV_wf : ∀ (fs : List Fld) (v : Int) (flex : Bool) (l : List Tr) (u : List (Nat × List UInt8)), (∀ x ∈ l, TrOk x) → (∀ x ∈ u, x.1 < 4294967296) → wf (fieldsW fs v flex) (fieldsV fs v flex l u)
  | [], v, flex, l, u, _, hu => by
    cases flex
    · simp [fieldsW, fieldsV, wf]
    · simp only [fieldsW, fieldsV, if_true, wf, and_true]
      have := unkV_len u
      exact ⟨unkV_up u hu, by unfold most at this; omega⟩
  | f :: fs, v, flex, l, u, hl, hu => by
    simp only [fieldsW, fieldsV]
    split
    · exact ⟨fieldV_wf f v flex _ (TrOk.head hl), fieldsV_wf fs v flex l.tail u (fun x hx => hl x (List.mem_of_mem_tail hx)) hu⟩
    · exact fieldsV_wf fs v flex l.tail u (fun x hx => hl x (List.mem_of_mem_tail hx)) hu
end

/-! ### a form that allows more nulls writes and reads the same -/

def W.sub : W → W → Bool
  | .unit, .unit => true
  | .pair a b, .pair c d => W.sub a c && W.sub b d
  | .tags, .tags => true
  | .prim p, .prim q => decide (p = q)
  | .str c n, .str d m => (c == d) && (!n || m)
  | .byt c n, .byt d m => (c == d) && (!n || m)
  | .arr c n r e, .arr d m s f => (c == d) && (!n || m) && (!r || s) && W.sub e f
  | .opt e, .opt f => W.sub e f
  | _, _ => false

theorem W.sub_wf : ∀ (a b : W) (x : Val), W.sub a b = true → wf a x → wf b x ∧ enc b x = enc a x := by
  intro a
  induction a with
  | unit => intro b x h hx; cases b <;> simp [W.sub] at h; exact ⟨hx, rfl⟩
  | pair a c iha ihc =>
    intro b x h hx
    cases b <;> simp [W.sub] at h
    cases x <;> simp only [wf] at hx <;> try exact hx.elim
    have h1 := iha _ _ h.1 hx.1
    have h2 := ihc _ _ h.2 hx.2
    exact ⟨⟨h1.1, h2.1⟩, by simp only [enc, h1.2, h2.2]⟩
  | tags => intro b x h hx; cases b <;> simp [W.sub] at h; exact ⟨hx, rfl⟩
  | prim p => intro b x h hx; cases b <;> simp [W.sub] at h; subst h; exact ⟨hx, rfl⟩
  | str c n =>
    intro b x h hx
    cases b <;> simp [W.sub] at h
    obtain ⟨rfl, h⟩ := h
    cases x <;> simp only [wf] at hx <;> try exact hx.elim
    rename_i m o
    refine ⟨?_, rfl⟩
    cases o with
    | none =>
      rcases h with h | h
      · rw [show n = true from hx] at h; cases h
      · exact h
    | some s => exact hx
  | byt c n =>
    intro b x h hx
    cases b <;> simp [W.sub] at h
    obtain ⟨rfl, h⟩ := h
    cases x <;> simp only [wf] at hx <;> try exact hx.elim
    rename_i m o
    refine ⟨?_, rfl⟩
    cases o with
    | none =>
      rcases h with h | h
      · rw [show n = true from hx] at h; cases h
      · exact h
    | some s => exact hx
  | arr c n r e ih =>
    intro b x h hx
    cases b <;> simp [W.sub] at h
    obtain ⟨⟨⟨rfl, hn⟩, hr⟩, he⟩ := h
    cases x <;> simp only [wf] at hx <;> try exact hx.elim
    rename_i m s f o
    cases o with
    | none =>
      simp only [wf] at hx ⊢
      obtain ⟨hx1, hx2⟩ := hx
      refine ⟨⟨?_, ?_⟩, by simp [enc]⟩
      · rcases hn with hn | hn
        · rw [hx1] at hn; cases hn
        · exact hn
      · rcases hr with hr | hr
        · rw [hx2] at hr; cases hr
        · exact hr
    | some l =>
      simp only [wf] at hx ⊢
      refine ⟨⟨hx.1, fun v hv => (ih _ _ he (hx.2 v hv)).1⟩, ?_⟩
      simp only [enc, Option.getD_some]
      congr 2
      apply List.map_congr_left
      intro v hv
      exact (ih _ _ he (hx.2 v hv)).2
  | opt e ih =>
    intro b x h hx
    cases b <;> simp [W.sub] at h
    cases x <;> try exact hx.elim
    rename_i f o
    cases o with
    | none => exact ⟨trivial, rfl⟩
    | some v =>
      have := ih _ v h hx
      exact ⟨this.1, by simp only [enc, this.2]⟩

/-- What is written of a part is the wire form of its value; it is read again. -/
theorem part_dec (fs : List Fld) (v : Int) (flex : Bool) (t : Tr) (ht : TrOk t) (w : W) (hs : W.sub (fieldsW fs v flex) w = true) (hw : w.ok = true) (r : List UInt8) :
    wf w (fieldsV fs v flex t.l t.u) ∧ enc w (fieldsV fs v flex t.l t.u) = partB fs v flex t ∧ dec w (partB fs v flex t ++ r) = some (fieldsV fs v flex t.l t.u, r) := by
  have h1 := W.sub_wf _ w _ hs (fieldsV_wf fs v flex t.l t.u ht.l ht.u)
  have h2 : enc w (fieldsV fs v flex t.l t.u) = partB fs v flex t := h1.2.trans (fieldsB_enc fs v flex t.l t.u)
  refine ⟨h1.1, h2, ?_⟩
  rw [← h2]
  exact dec_enc w _ r hw h1.1
end Go.Proofs.YtpefipjgcpchaaaGreatDoorR.Kf

namespace Go.Proofs.YtpefipjgcpchaaaGreatDoorR.Kf
set_option linter.unusedVariables false
set_option linter.unusedSimpArgs false

mutual
def Tr.size : Tr → Nat
  | .mk _ s _ l u => 1 + s.length + trsSize l + tgsSize u
def trsSize : List Tr → Nat
  | [] => 0
  | t :: l => Tr.size t + trsSize l
def tgsSize : List (Nat × List UInt8) → Nat
  | [] => 0
  | x :: l => 1 + x.2.length + tgsSize l
end
theorem Tr.size_pos (t : Tr) : 1 ≤ t.size := by cases t; simp only [Tr.size]; omega
theorem trsSize_mem {t : Tr} : ∀ {l : List Tr}, t ∈ l → t.size ≤ trsSize l := by
  intro l
  induction l with
  | nil => intro h; cases h
  | cons y l ih =>
    intro h
    simp only [trsSize]
    rcases List.mem_cons.1 h with rfl | h
    · omega
    · have := ih h; omega
theorem trsSize_tail (l : List Tr) : trsSize l.tail ≤ trsSize l := by cases l <;> simp only [List.tail, trsSize] <;> omega
theorem trsSize_head (l : List Tr) : (l.headD tr0).size ≤ trsSize l + 1 := by
  cases l
  · simp [tr0, Tr.size, trsSize, tgsSize]
  · simp only [List.headD, trsSize]; omega
theorem Tr.size_l (t : Tr) : trsSize t.l + 1 ≤ t.size := by cases t; simp only [Tr.l, Tr.size]; omega
theorem Tr.size_s (t : Tr) : t.s.length + 1 ≤ t.size := by cases t; simp only [Tr.s, Tr.size]; omega
theorem Tr.size_u (t : Tr) : tgsSize t.u + 1 ≤ t.size := by cases t; simp only [Tr.u, Tr.size]; omega

theorem uvEncF_max : ∀ (k n : Nat), (uvEncF k n).length ≤ k := by
  intro k
  induction k with
  | zero => intro n; simp [uvEncF]
  | succ k ih =>
    intro n
    simp only [uvEncF]
    split
    · simp
    · have := ih (n / 128); simp; omega
theorem uvEnc_max (n : Nat) : (uvEnc n).length ≤ 10 := uvEncF_max 10 n
theorem cntEnc_max (c : Bool) (n : Nat) (o : Option Nat) (hn : n ≤ 10) : (cntEnc c n o).length ≤ 10 := by
  cases c <;> cases o <;> simp only [cntEnc, beEnc_length] <;> first | omega | (simp; done) | exact uvEnc_max _
theorem scalB_max (kind : Nat) (nl flex : Bool) (t : Tr) : (scalB kind nl flex t).length ≤ 26 + (t.s.take most).length := by
  unfold scalB
  split
  · simp [beEnc_length]; omega
  split
  · simp; omega
  split
  · have := cntEnc_max flex 2 (if nl then none else some (t.s.take most).length) (by decide)
    cases nl <;> simp at * <;> omega
  split
  · have := cntEnc_max flex 4 (if nl then none else some (t.s.take most).length) (by decide)
    cases nl <;> simp at * <;> omega
  · rw [beEnc_length]
    have : (kPrim kind).n ≤ 16 := by cases kPrim kind <;> decide
    omega

/-! ### by the fields alone -/
def tagsMax : Nat := 10 + 32767 * 32787
theorem tags_len_le : ∀ (b : Nat) (l : List (Nat × List UInt8)), (∀ x ∈ l, x.2.length ≤ b) → (encTags l).length ≤ l.length * (20 + b) := by
  intro b l
  induction l with
  | nil => intro _; simp [encTags]
  | cons x l ih =>
    intro h
    have h1 := h x (by simp)
    have h2 := ih (fun y hy => h y (by simp [hy]))
    have h3 := uvEnc_max x.1
    have h4 := uvEnc_max x.2.length
    simp only [encTags, List.length_append, List.length_cons] at *
    rw [Nat.add_mul]
    omega
theorem unk_max (u : List (Nat × List UInt8)) : (uvEnc (unkV u).length ++ encTags (unkV u)).length ≤ tagsMax := by
  have h1 := uvEnc_max (unkV u).length
  have h2 := tags_len_le 32767 (unkV u) (fun x hx => by
    simp only [unkV, List.mem_map] at hx
    obtain ⟨y, _, rfl⟩ := hx
    simp [most]; omega)
  have h3 := unkV_len u
  have h4 : (unkV u).length * (20 + 32767) ≤ 32767 * (20 + 32767) := Nat.mul_le_mul_right _ h3
  rw [List.length_append]; unfold tagsMax; omega

def scalBnd (kind : Nat) : Nat := if kind = 8 ∨ kind = 9 then 32793 else 26
theorem scalB_bnd (kind : Nat) (nl flex : Bool) (t : Tr) : (scalB kind nl flex t).length ≤ scalBnd kind := by
  have h := scalB_max kind nl flex t
  have h2 : (t.s.take most).length ≤ 32767 := by simp [most]; omega
  unfold scalBnd
  split
  · omega
  · rename_i hk
    unfold scalB
    rw [if_neg (fun e => hk (.inl e)), if_neg (fun e => hk (.inr e))]
    split
    · simp [beEnc_length]
    split
    · simp; omega
    · rw [beEnc_length]
      have : (kPrim kind).n ≤ 16 := by cases kPrim kind <;> decide
      omega
mutual
def Fld.bnd (flex : Bool) : Fld → Nat
  | .mk kind _ _ nu _ _ of sub => if kind = 11 then 10 + 32767 * (if of = 10 then fldsBnd flex sub else scalBnd of) else if kind = 10 then 1 + fldsBnd flex sub else scalBnd kind
def fldsBnd (flex : Bool) : List Fld → Nat
  | [] => if flex then tagsMax else 0
  | f :: fs => Fld.bnd flex f + fldsBnd flex fs
end
theorem take_most (s : List UInt8) : (s.take most).length ≤ 32767 := by simp [most]; omega
theorem flatBnd {α : Type} (g : α → List UInt8) (b : Nat) : ∀ l : List α, (∀ x ∈ l, (g x).length ≤ b) → (l.map g).flatten.length ≤ l.length * b := by
  intro l
  induction l with
  | nil => intro _; simp
  | cons x l ih =>
    intro h
    have h1 := h x (by simp)
    have h2 := ih (fun y hy => h y (by simp [hy]))
    simp only [List.map_cons, List.flatten_cons, List.length_append, List.length_cons, Nat.add_mul]
    omega
mutual
theorem field_bnd : ∀ (f : Fld) (v : Int) (flex : Bool) (t : Tr), (fieldB f v flex t).length ≤ Fld.bnd flex f
  | .mk kind fr to nu tag df of sub, v, flex, t => by
    have hs := fields_bnd sub v flex
    simp only [fieldB, Fld.bnd]
    split
    · have h1 := cntEnc_max flex 4 (if t.nl && mayN nu v then none else some (t.l.take most).length) (by decide)
      rw [List.length_append]
      cases hn : (t.nl && mayN nu v)
      · rw [hn] at h1
        simp only [Bool.false_eq_true, if_false] at *
        have h2 := flatBnd (fun x => if of = 10 then fieldsB sub v flex x.l ++ (if flex then uvEnc (unkV x.u).length ++ encTags (unkV x.u) else []) else scalB of false flex x) (if of = 10 then fldsBnd flex sub else scalBnd of) (t.l.take most) (fun x _ => by
          by_cases ho : of = 10
          · simp only [ho, if_true]
            exact hs x.l x.u
          · simp only [ho, if_false]
            exact scalB_bnd of false flex x)
        have h3 : (t.l.take most).length ≤ 32767 := by simp [most]; omega
        have h4 := Nat.mul_le_mul_right (if of = 10 then fldsBnd flex sub else scalBnd of) h3
        omega
      · rw [hn] at h1
        simp only [if_true, List.length_nil] at *
        omega
    split
    · have h1 := hs t.l t.u
      split
      · split
        · simp
        · simp only [List.length_cons]; omega
      · omega
    · exact scalB_bnd kind (t.nl && mayN nu v) flex t
theorem fields_bnd : ∀ (fs : List Fld) (v : Int) (flex : Bool) (l : List Tr) (u : List (Nat × List UInt8)), (fieldsB fs v flex l ++ (if flex then uvEnc (unkV u).length ++ encTags (unkV u) else [])).length ≤ fldsBnd flex fs
  | [], v, flex, l, u => by
    simp only [fieldsB, fldsBnd, List.nil_append]
    cases flex
    · simp
    · simp only [if_true]; exact unk_max u
  | f :: fs, v, flex, l, u => by
    have h1 := field_bnd f v flex (l.headD tr0)
    have h2 := fields_bnd fs v flex l.tail u
    simp only [fieldsB, fldsBnd]
    rw [List.append_assoc, List.length_append]
    split
    · omega
    · simp only [List.length_nil]; omega
end
theorem part_bnd (fs : List Fld) (v : Int) (flex : Bool) (t : Tr) : (partB fs v flex t).length ≤ fldsBnd flex fs := fields_bnd fs v flex t.l t.u

/-! ### by the tree's size -/
mutual
/-- So many octets at the most for each of a tree's parts. -/
def Fld.cst : Fld → Nat
  | .mk kind _ _ nu _ _ of sub => if kind = 11 then 10 + (if of = 10 then fldsCst sub else 27) else if kind = 10 then 1 + fldsCst sub else 27
def fldsCst : List Fld → Nat
  | [] => 40
  | f :: fs => Fld.cst f + fldsCst fs
end
theorem scalB_cst (kind : Nat) (nl flex : Bool) (t : Tr) : (scalB kind nl flex t).length ≤ 27 * t.size := by
  have h1 := scalB_max kind nl flex t
  have h2 := t.size_s
  have h3 : (t.s.take most).length ≤ t.s.length := by simp; omega
  omega
theorem tgs_ins (x : Nat × List UInt8) : ∀ l : List (Nat × List UInt8), tgsSize (insU x l) ≤ tgsSize l + (1 + x.2.length) := by
  intro l
  induction l with
  | nil => simp [insU, tgsSize]
  | cons y l ih =>
    simp only [insU]
    split
    · simp only [tgsSize]; omega
    split
    · omega
    · simp only [tgsSize]; omega
theorem tgs_fold (b : Nat) : ∀ (l acc : List (Nat × List UInt8)), tgsSize (l.foldl (fun out x => if x.1 < b then out else insU x out) acc) ≤ tgsSize acc + tgsSize l := by
  intro l
  induction l with
  | nil => intro acc; simp [tgsSize]
  | cons x l ih =>
    intro acc
    simp only [List.foldl_cons, tgsSize]
    have h := ih (if x.1 < b then acc else insU x acc)
    have h2 := tgs_ins x acc
    split at h <;> split <;> first | omega | contradiction
theorem tgs_take (n : Nat) : ∀ l : List (Nat × List UInt8), tgsSize (l.take n) ≤ tgsSize l := by
  induction n with
  | zero => intro l; simp [tgsSize]
  | succ n ih =>
    intro l
    cases l with
    | nil => simp
    | cons x l => simp only [List.take_succ_cons, tgsSize]; have := ih l; omega
theorem tgs_map (l : List (Nat × List UInt8)) : tgsSize (l.map fun x => (x.1, x.2.take most)) ≤ tgsSize l := by
  induction l with
  | nil => simp [tgsSize]
  | cons x l ih =>
    simp only [List.map_cons, tgsSize]
    have : (x.2.take most).length ≤ x.2.length := by simp; omega
    omega
theorem enc_tgs (l : List (Nat × List UInt8)) : (encTags l).length ≤ 21 * tgsSize l := by
  induction l with
  | nil => simp [encTags, tgsSize]
  | cons x l ih =>
    have h3 := uvEnc_max x.1
    have h4 := uvEnc_max x.2.length
    simp only [encTags, List.length_append, tgsSize] at *
    omega
theorem unk_cst (t : Tr) : (uvEnc (unkV t.u).length ++ encTags (unkV t.u)).length ≤ 40 * t.size := by
  have h1 := uvEnc_max (unkV t.u).length
  have h2 := enc_tgs (unkV t.u)
  have h3 := tgs_map (unkS 0 t.u)
  have h4 := tgs_fold 0 (t.u.take most) []
  have h5 := tgs_take most t.u
  have h6 := t.size_u
  have h7 : tgsSize (unkV t.u) ≤ tgsSize t.u := by
    refine Nat.le_trans h3 (Nat.le_trans h4 ?_)
    simp only [tgsSize, Nat.zero_add]; exact h5
  rw [List.length_append]
  omega
theorem trs_take (n : Nat) : ∀ l : List Tr, trsSize (l.take n) ≤ trsSize l := by
  induction n with
  | zero => intro l; simp [trsSize]
  | succ n ih =>
    intro l
    cases l with
    | nil => simp
    | cons x l => simp only [List.take_succ_cons, trsSize]; have := ih l; omega
theorem flat_trs (g : Tr → List UInt8) (b : Nat) : ∀ l : List Tr, (∀ x ∈ l, (g x).length ≤ b * x.size) → (l.map g).flatten.length ≤ b * trsSize l := by
  intro l
  induction l with
  | nil => intro _; simp
  | cons x l ih =>
    intro h
    have h1 := h x (by simp)
    have h2 := ih (fun y hy => h y (by simp [hy]))
    simp only [List.map_cons, List.flatten_cons, List.length_append, trsSize, Nat.mul_add]
    omega
mutual
theorem field_cst : ∀ (f : Fld) (v : Int) (flex : Bool) (t : Tr), (fieldB f v flex t).length ≤ Fld.cst f * t.size
  | .mk kind fr to nu tag df of sub, v, flex, t => by
    have hs := fun x => fields_cst sub v flex x
    have hp := t.size_pos
    simp only [fieldB, Fld.cst]
    split
    · have h1 := cntEnc_max flex 4 (if t.nl && mayN nu v then none else some (t.l.take most).length) (by decide)
      rw [List.length_append, Nat.add_mul]
      cases hn : (t.nl && mayN nu v)
      · rw [hn] at h1
        simp only [Bool.false_eq_true, if_false] at *
        have h2 := flat_trs (fun x => if of = 10 then fieldsB sub v flex x.l ++ (if flex then uvEnc (unkV x.u).length ++ encTags (unkV x.u) else []) else scalB of false flex x) (if of = 10 then fldsCst sub else 27) (t.l.take most) (fun x _ => by
          by_cases ho : of = 10
          · simp only [ho, if_true]
            exact hs x
          · simp only [ho, if_false]
            exact scalB_cst of false flex x)
        have h3 := trs_take most t.l
        have h5 := t.size_l
        have h4 := Nat.mul_le_mul_left (if of = 10 then fldsCst sub else 27) (show trsSize (t.l.take most) ≤ t.size by omega)
        omega
      · rw [hn] at h1
        simp only [if_true, List.length_nil] at *
        omega
    split
    · have h1 := hs t
      rw [Nat.add_mul]
      split
      · split
        · simp; omega
        · simp only [List.length_cons]; omega
      · omega
    · exact scalB_cst kind (t.nl && mayN nu v) flex t
theorem fields_cst : ∀ (fs : List Fld) (v : Int) (flex : Bool) (t : Tr), (fieldsB fs v flex t.l ++ (if flex then uvEnc (unkV t.u).length ++ encTags (unkV t.u) else [])).length ≤ fldsCst fs * t.size
  | fs, v, flex, t => by
    have h1 := fieldsOnly_cst fs v flex t.l t.size (fun x hx => by have := trsSize_mem hx; have := t.size_l; omega) t.size_pos
    have h2 := unk_cst t
    rw [List.length_append]
    cases flex
    · simp only [Bool.false_eq_true, if_false, List.length_nil] at *
      omega
    · simp only [if_true] at *
      omega
theorem fieldsOnly_cst : ∀ (fs : List Fld) (v : Int) (flex : Bool) (l : List Tr) (s : Nat), (∀ x ∈ l, x.size ≤ s) → 1 ≤ s → (fieldsB fs v flex l).length + 40 * s ≤ fldsCst fs * s
  | [], v, flex, l, s, h, hs => by simp only [fieldsB, fldsCst, List.length_nil]; omega
  | f :: fs, v, flex, l, s, h, hs => by
    have h1 := field_cst f v flex (l.headD tr0)
    have h2 := fieldsOnly_cst fs v flex l.tail s (fun x hx => h x (List.mem_of_mem_tail hx)) hs
    have h3 : (l.headD tr0).size ≤ s := by
      cases l with
      | nil => simpa [tr0, Tr.size, trsSize, tgsSize] using hs
      | cons x l => exact h x (by simp)
    have h4 := Nat.mul_le_mul_left (Fld.cst f) h3
    simp only [fieldsB, fldsCst, Nat.add_mul]
    rw [List.length_append]
    split
    · omega
    · simp only [List.length_nil]; omega
end
theorem part_cst (fs : List Fld) (v : Int) (flex : Bool) (t : Tr) : (partB fs v flex t).length ≤ fldsCst fs * t.size := fields_cst fs v flex t
end Go.Proofs.YtpefipjgcpchaaaGreatDoorR.Kf
