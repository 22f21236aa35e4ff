/- What is read of few octets is well formed, and is written in no more octets than it was read from. -/
import Derived.Test.YtfimokbgggimmaaDoorWire
namespace Go.Proofs.YtfimokbgggimmaaDoor.Kf
set_option linter.unusedVariables false
set_option linter.unusedSimpArgs false

theorem uvEncF_le (j : Nat) : ∀ (k n : Nat), 1 ≤ k → n < 128 ^ k → (uvEncF j n).length ≤ k := by
  induction j with
  | zero => intro k n _ _; simp [uvEncF]
  | succ j ih =>
    intro k n hk hn
    simp only [uvEncF]
    split
    · simp; omega
    · rename_i h
      obtain ⟨k, rfl⟩ : ∃ i, k = i + 1 := ⟨k - 1, by omega⟩
      have hk1 : 1 ≤ k := by
        rcases Nat.eq_zero_or_pos k with rfl | h'
        · simp at hn; omega
        · exact h'
      have : n / 128 < 128 ^ k := by
        rw [Nat.pow_succ] at hn
        exact Nat.div_lt_of_lt_mul (by rw [Nat.mul_comm]; exact hn)
      have := ih k (n / 128) hk1 this
      simp; omega

theorem uvDecF_use (k : Nat) : ∀ (m : Nat) (l : List UInt8) (x : Nat) (r : List UInt8), 0 < m → uvDecF k m l = some (x, r) → ∃ j, 1 ≤ j ∧ l.length = r.length + j ∧ x < m * 128 ^ j := by
  induction k with
  | zero =>
    intro m l x r hm h
    cases l with
    | nil => simp [uvDecF] at h
    | cons b l =>
      simp only [uvDecF] at h
      split at h
      · rename_i hb
        simp at h; obtain ⟨rfl, rfl⟩ := h
        refine ⟨1, Nat.le_refl _, rfl, ?_⟩
        rw [Nat.mul_comm]
        exact Nat.mul_lt_mul_of_pos_left (by omega) hm
      · cases h
  | succ k ih =>
    intro m l x r hm h
    cases l with
    | nil => simp [uvDecF] at h
    | cons b l =>
      simp only [uvDecF] at h
      split at h
      · rename_i hb
        simp at h; obtain ⟨rfl, rfl⟩ := h
        refine ⟨1, Nat.le_refl _, rfl, ?_⟩
        rw [Nat.mul_comm]
        exact Nat.mul_lt_mul_of_pos_left (by omega) hm
      · cases hd : uvDecF k (m * 128) l with
        | none => rw [hd] at h; cases h
        | some y =>
          obtain ⟨y, r'⟩ := y
          rw [hd] at h
          simp at h
          obtain ⟨rfl, rfl⟩ := h
          obtain ⟨j, h1, h2, h3⟩ := ih (m * 128) l y r' (by omega) hd
          refine ⟨j + 1, by omega, by simp; omega, ?_⟩
          have hdv : ∀ (k m : Nat) (l : List UInt8) (x : Nat) (r : List UInt8), uvDecF k m l = some (x, r) → m ∣ x := by
            intro k
            induction k with
            | zero =>
              intro m l x r h
              cases l with
              | nil => simp [uvDecF] at h
              | cons b l =>
                simp only [uvDecF] at h
                split at h
                · simp at h; obtain ⟨rfl, _⟩ := h; exact Nat.dvd_mul_left _ _
                · cases h
            | succ k ih =>
              intro m l x r h
              cases l with
              | nil => simp [uvDecF] at h
              | cons b l =>
                simp only [uvDecF] at h
                split at h
                · simp at h; obtain ⟨rfl, _⟩ := h; exact Nat.dvd_mul_left _ _
                · cases hd : uvDecF k (m * 128) l with
                  | none => rw [hd] at h; cases h
                  | some y =>
                    obtain ⟨y, r'⟩ := y
                    rw [hd] at h
                    simp at h
                    obtain ⟨rfl, _⟩ := h
                    exact Nat.dvd_add (Nat.dvd_mul_left _ _) (Nat.dvd_trans (Nat.dvd_mul_right _ _) (ih _ _ _ _ hd))
          obtain ⟨q, rfl⟩ := hdv _ _ _ _ _ hd
          have hq : q < 128 ^ j := Nat.lt_of_mul_lt_mul_left h3
          have hb : b.toNat < 256 := b.toNat_lt
          have h5 : (b.toNat - 128) * m ≤ 127 * m := Nat.mul_le_mul_right _ (by omega)
          have h6 : m * 128 * (q + 1) ≤ m * 128 * 128 ^ j := Nat.mul_le_mul_left _ hq
          rw [Nat.mul_add, Nat.mul_one] at h6
          have h7 : m * 128 ^ (j + 1) = m * 128 * 128 ^ j := by rw [Nat.pow_succ, Nat.mul_comm (128 ^ j) 128, Nat.mul_assoc]
          rw [h7]
          omega

/-- A number in groups takes no more octets than it was read from. -/
theorem uv_use {l : List UInt8} {x : Nat} {r : List UInt8} (h : uvDec l = some (x, r)) : (uvEnc x).length + r.length ≤ l.length := by
  obtain ⟨j, h1, h2, h3⟩ := uvDecF_use 4 1 l x r (by decide) h
  have := uvEncF_le 10 j x h1 (by simpa using h3)
  unfold uvEnc
  omega
theorem uvEncF_mono (k : Nat) : ∀ (a b : Nat), a ≤ b → (uvEncF k a).length ≤ (uvEncF k b).length := by
  induction k with
  | zero => intro a b _; simp [uvEncF]
  | succ k ih =>
    intro a b h
    simp only [uvEncF]
    split
    · split <;> simp
    · rw [if_neg (by omega)]
      have := ih (a / 128) (b / 128) (Nat.div_le_div_right h)
      simp; omega
theorem uvEnc_mono {a b : Nat} (h : a ≤ b) : (uvEnc a).length ≤ (uvEnc b).length := uvEncF_mono _ _ _ h

theorem tset_use (k : Nat) (v : List UInt8) : ∀ l : List (Nat × List UInt8), (encTags (tset k v l)).length ≤ (encTags l).length + ((uvEnc k).length + ((uvEnc v.length).length + v.length)) ∧ (tset k v l).length ≤ l.length + 1 := by
  intro l
  induction l with
  | nil => simp [tset, encTags]
  | cons x l ih =>
    obtain ⟨j, u⟩ := x
    unfold tset
    split
    · simp [encTags]; omega
    · split
      · rename_i hj; subst hj; simp [encTags]; omega
      · simp [encTags]; omega
theorem decTags_use (n : Nat) : ∀ (acc : List (Nat × List UInt8)) (l : List UInt8) (x : List (Nat × List UInt8)) (r : List UInt8), decTags n acc l = some (x, r) → (encTags x).length + r.length ≤ (encTags acc).length + l.length ∧ x.length ≤ acc.length + n := by
  induction n with
  | zero => intro acc l x r e; simp [decTags] at e; obtain ⟨rfl, rfl⟩ := e; exact ⟨Nat.le_refl _, Nat.le_refl _⟩
  | succ n ih =>
    intro acc l x r e
    simp only [decTags] at e
    split at e
    · cases e
    · rename_i k l1 hk
      split at e
      · cases e
      · rename_i m l2 hm
        split at e
        · cases e
        · rename_i hlen
          have h1 := ih _ _ _ _ e
          have h2 := tset_use k (l2.take m) acc
          have h3 := uv_use hk
          have h4 := uv_use hm
          have h5 : (l2.take m).length = m := by simp; omega
          rw [h5] at h2
          simp at h1
          omega

theorem conv_rng' (p : Prim) (hp : p ≠ .uuid) (l : List UInt8) (hl : l.length = p.n) : p.lo ≤ p.conv (beDec l) ∧ p.conv (beDec l) < p.hi := by
  have h := beDec_lt l
  rw [hl] at h
  generalize beDec l = m at h
  cases p <;> simp only [Prim.n, Prim.lo, Prim.hi, Prim.conv] at * <;> first | exact absurd rfl hp | skip
  all_goals (try split) <;> omega

/-- What a count comes to. -/
theorem cnt_use {c : Bool} {p : Prim} {l : List UInt8} {n : Int} {r : List UInt8} (hp : p = .i16 ∨ p = .i32) (h : cntDec c p l = some (n, r)) :
    r.length ≤ l.length ∧ (n < 0 → (cntEnc c p.n none).length + r.length ≤ l.length) ∧ (cntEnc c p.n (some 0)).length + r.length ≤ l.length ∧ (0 ≤ n → (cntEnc c p.n (some n.toNat)).length + r.length ≤ l.length) ∧ n < 4294967295 ∧ (c = false → n < p.hi) := by
  cases c
  · simp only [cntDec, Bool.false_eq_true, if_false] at h
    split at h
    · cases h
    · rename_i hl
      injection h with h
      injection h with h1 h2
      have hr : r.length + p.n = l.length := by rw [← h2]; simp; omega
      have hn : n < p.hi := by rw [← h1]; exact (conv_rng' p (by rcases hp with rfl | rfl <;> decide) _ (by simp; omega)).2
      refine ⟨by omega, ?_, ?_, ?_, ?_, fun _ => hn⟩
      · intro _; simp only [cntEnc, beEnc_length]; omega
      · simp only [cntEnc, beEnc_length]; omega
      · intro _; simp only [cntEnc, beEnc_length]; omega
      · rcases hp with rfl | rfl <;> simp only [Prim.hi] at hn <;> omega
  · simp only [cntDec, if_true] at h
    cases hu : uvDec l with
    | none => rw [hu] at h; cases h
    | some x =>
      obtain ⟨u, r'⟩ := x
      rw [hu] at h
      simp at h
      obtain ⟨rfl, rfl⟩ := h
      have h1 := uv_use hu
      have h2 := uvEnc_pos u
      have h3 := uvDec_lt hu
      refine ⟨by omega, ?_, ?_, ?_, by omega, fun h => by cases h⟩
      · intro _; simp only [cntEnc, List.length_cons, List.length_nil]; omega
      · show (uvEnc 1).length + r'.length ≤ _
        have : (uvEnc 1).length = 1 := rfl
        omega
      · intro h0
        show (uvEnc (((u : Int) - 1).toNat + 1)).length + r'.length ≤ _
        have : ((u : Int) - 1).toNat + 1 = u := by omega
        rw [this]; exact h1
theorem len_use {c : Bool} {l : List UInt8} {n : Int} {r : List UInt8} (h : lenDec c l = some (n, r)) :
    r.length ≤ l.length ∧ n ≤ r.length ∧ (n < 0 → (cntEnc c 4 none).length + r.length ≤ l.length) ∧ (cntEnc c 4 (some n.toNat)).length + r.length ≤ l.length := by
  cases c
  · simp only [lenDec, Bool.false_eq_true, if_false] at h
    split at h
    · cases h
    · rename_i hl
      split at h
      · cases h
      · rename_i hb
        injection h with h
        injection h with h1 h2
        subst h1 h2
        refine ⟨by simp, by omega, fun _ => ?_, ?_⟩ <;> simp only [cntEnc, beEnc_length] <;> simp <;> omega
  · simp only [lenDec, if_true] at h
    cases hu : uvDec l with
    | none => rw [hu] at h; cases h
    | some x =>
      obtain ⟨u, r'⟩ := x
      rw [hu] at h
      simp only at h
      have h1 := uv_use hu
      have h2 := uvEnc_pos u
      have h3 := uvDec_lt hu
      generalize hv : (if u ≤ 2147483648 then (u : Int) - 1 else (u : Int) - 4294967296 - 1) = v at h
      have h6 : v.toNat + 1 ≤ u ∨ v.toNat = 0 := by rw [← hv]; split <;> omega
      by_cases hb : (r'.length : Int) < v
      · rw [if_pos hb] at h; cases h
      · rw [if_neg hb] at h
        injection h with h
        injection h with h4 h5
        subst h5
        subst h4
        refine ⟨by omega, by omega, fun _ => ?_, ?_⟩
        · simp only [cntEnc, List.length_cons, List.length_nil]; omega
        · show (uvEnc (v.toNat + 1)).length + r'.length ≤ _
          rcases h6 with h6 | h6
          · have := uvEnc_mono h6; omega
          · rw [h6]
            have : (uvEnc (0 + 1)).length = 1 := rfl
            omega

theorem span_use {n : Int} {l : List UInt8} {x : Val} {r : List UInt8} (h : spanDec n l = some (x, r)) : 0 ≤ n ∧ n ≤ l.length ∧ x = .bytes (some (l.take n.toNat)) ∧ r = l.drop n.toNat ∧ (l.take n.toNat).length = n.toNat := by
  unfold spanDec at h
  split at h
  · cases h
  · injection h with h
    injection h with h1 h2
    exact ⟨by omega, by omega, h1.symm, h2.symm, by simp; omega⟩

theorem list_use {e : W} (he : ∀ l x r, dec e l = some (x, r) → l.length ≤ 32767 → wf e x ∧ (enc e x).length + r.length ≤ l.length) : ∀ (n : Nat) (l : List UInt8) (vs : List Val) (r : List UInt8), listDec (dec e) n l = some (vs, r) → l.length ≤ 32767 →
    vs.length = n ∧ (∀ v ∈ vs, wf e v) ∧ ((vs.map (enc e)).flatten).length + r.length ≤ l.length := by
  intro n
  induction n with
  | zero => intro l vs r h _; simp [listDec] at h; obtain ⟨rfl, rfl⟩ := h; simp
  | succ n ih =>
    intro l vs r h hl
    simp only [listDec] at h
    split at h
    · cases h
    · rename_i v l1 h1
      split at h
      · cases h
      · rename_i vs' l2 h2
        injection h with h
        injection h with h3 h4
        subst h3 h4
        obtain ⟨a1, a2⟩ := he _ _ _ h1 hl
        obtain ⟨b1, b2, b3⟩ := ih _ _ _ h2 (by omega)
        refine ⟨by simp [b1], fun v hv => ?_, by simp at b3 ⊢; omega⟩
        rcases List.mem_cons.1 hv with rfl | hv
        · exact a1
        · exact b2 v hv

theorem dec_use : ∀ (w : W) (l : List UInt8) (x : Val) (r : List UInt8), dec w l = some (x, r) → l.length ≤ 32767 → wf w x ∧ (enc w x).length + r.length ≤ l.length := by
  intro w
  induction w with
  | unit => intro l x r h _; simp [dec] at h; obtain ⟨rfl, rfl⟩ := h; exact ⟨rfl, by simp [enc]⟩
  | pair a b iha ihb =>
    intro l x r h hl
    simp only [dec] at h
    split at h
    · cases h
    · rename_i y l1 h1
      split at h
      · cases h
      · rename_i z l2 h2
        injection h with h
        injection h with h3 h4
        subst h3 h4
        obtain ⟨a1, a2⟩ := iha _ _ _ h1 hl
        obtain ⟨b1, b2⟩ := ihb _ _ _ h2 (by omega)
        exact ⟨⟨a1, b1⟩, by simp only [enc, List.length_append]; omega⟩
  | tags =>
    intro l x r h hl
    simp only [dec] at h
    split at h
    · cases h
    · rename_i n l1 h1
      split at h
      · cases h
      · rename_i t l2 h2
        injection h with h
        injection h with h3 h4
        subst h3 h4
        have u1 := uv_use h1
        have u2 := decTags_use _ _ _ _ _ h2
        have u3 := uvDec_lt h1
        have u4 := uvEnc_mono (a := t.length) (b := n) (by simpa using u2.2)
        refine ⟨⟨decTags_up _ [] _ _ _ trivial h2, by have := u2.2; simp at this; omega⟩, ?_⟩
        simp only [enc, List.length_append]
        have := u2.1
        simp [encTags] at this
        omega
  | prim p =>
    intro l x r h hl
    simp only [dec, primDec] at h
    split at h
    · cases h
    · rename_i hn
      split at h
      · rename_i hp
        subst hp
        injection h with h
        injection h with h3 h4
        subst h3 h4
        simp only [Prim.n] at hn
        exact ⟨⟨rfl, by simp; omega⟩, by simp [enc]; omega⟩
      · rename_i hp
        injection h with h
        injection h with h3 h4
        subst h3 h4
        have := conv_rng' p hp (l.take p.n) (by simp; omega)
        exact ⟨⟨hp, this.1, this.2⟩, by simp [enc, beEnc_length]; omega⟩
  | str c nl =>
    intro l x r h hl
    simp only [dec, strDec] at h
    split at h
    · cases h
    · rename_i n l1 h1
      obtain ⟨c1, c2, c3, c4, c5, c6⟩ := cnt_use (.inl rfl) h1
      split at h
      · rename_i hn
        injection h with h
        injection h with h3 h4
        subst h3 h4
        exact ⟨hn.2, by have := c2 hn.1; simp [enc]; exact this⟩
      · obtain ⟨s1, s2, rfl, rfl, s5⟩ := span_use h
        refine ⟨by show (l1.take n.toNat).length ≤ 32767; omega, ?_⟩
        have := c4 s1
        simp only [enc, Option.map_some, Option.getD_some, List.length_append, s5, List.length_drop]
        have e : Prim.i16.n = 2 := rfl
        rw [e] at this
        omega
  | byt c nl =>
    intro l x r h hl
    simp only [dec, bytDec] at h
    split at h
    · cases h
    · rename_i n l1 h1
      obtain ⟨c1, c2, c3, c4, c5, c6⟩ := cnt_use (.inr rfl) h1
      have e : Prim.i32.n = 4 := rfl
      rw [e] at c2 c3 c4
      have sp : ∀ x r, spanDec n l1 = some (x, r) → wf (.byt c nl) x ∧ (enc (.byt c nl) x).length + r.length ≤ l.length := by
        intro x r h
        obtain ⟨s1, s2, rfl, rfl, s5⟩ := span_use h
        refine ⟨by show (l1.take n.toNat).length ≤ 2147483646; omega, ?_⟩
        have := c4 s1
        simp only [enc, Option.map_some, Option.getD_some, List.length_append, s5, List.length_drop]
        omega
      split at h
      · rename_i hnl
        split at h
        · rename_i hn
          injection h with h
          injection h with h3 h4
          subst h3 h4
          exact ⟨hnl, by have := c2 hn; simp [enc]; exact this⟩
        · exact sp _ _ h
      · split at h
        · injection h with h
          injection h with h3 h4
          subst h3 h4
          exact ⟨by simp [wf], by simp [enc]; exact c3⟩
        · exact sp _ _ h
  | arr c nl nr e ih =>
    intro l x r h hl
    simp only [dec] at h
    split at h
    · cases h
    · rename_i n l1 h1
      obtain ⟨c1, c2, c3, c4⟩ := len_use h1
      split at h
      · rename_i hn
        injection h with h
        injection h with h3 h4
        subst h3 h4
        exact ⟨⟨hn.2.1, hn.2.2⟩, by have := c3 hn.1; simp [enc]; exact this⟩
      · split at h
        · cases h
        · rename_i vs l2 h2
          injection h with h
          injection h with h3 h4
          subst h3 h4
          obtain ⟨a1, a2, a3⟩ := list_use ih _ _ _ _ h2 (by omega)
          refine ⟨⟨by omega, a2⟩, ?_⟩
          simp only [enc, Option.map_some, Option.getD_some, List.length_append, a1]
          omega
  | opt e ih =>
    intro l x r h hl
    simp only [dec] at h
    split at h
    · cases h
    · rename_i b l1
      split at h
      · injection h with h
        injection h with h3 h4
        subst h3 h4
        exact ⟨trivial, by simp [enc]; omega⟩
      · split at h
        · cases h
        · rename_i v l2 h2
          injection h with h
          injection h with h3 h4
          subst h3 h4
          simp at hl
          obtain ⟨a1, a2⟩ := ih _ _ _ h2 (by omega)
          exact ⟨a1, by simp [enc]; omega⟩
end Go.Proofs.YtfimokbgggimmaaDoor.Kf
