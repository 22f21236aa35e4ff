/- FnReadTags: the plain law: tags set one after the other are in order, written and read as they are. -/
import Derived.Test.YthlfepgcjomhpaaKbA
import Derived.Test.YthlfepgcjomhpaaRowB
namespace Go.Proofs.Ythlfepgcjomhpaa.Kf
set_option linter.unusedVariables false
set_option linter.unusedSimpArgs false
open Go Go.RowKit Go.ChangeShapes Go.WideShapes Go.ChangeAt

def lastT (u : List (Nat × List UInt8)) : List (Nat × List UInt8) := u.foldl (fun a x => tset x.1 x.2 a) []
theorem lastT_step {u : List (Nat × List UInt8)} {j : Nat} (h : j < u.length) : lastT (u.take (j + 1)) = tset u[j].1 u[j].2 (lastT (u.take j)) := by
  unfold lastT
  rw [List.take_succ_eq_append_getElem h, List.foldl_append]
  rfl
theorem tset_in (k : Nat) (v : List UInt8) : ∀ l : List (Nat × List UInt8), ∀ x ∈ tset k v l, x = (k, v) ∨ x ∈ l
  | [], x, h => by simpa [tset] using h
  | y :: l, x, h => by
    obtain ⟨j, u⟩ := y
    unfold tset at h
    split at h
    · simpa using h
    · split at h
      · rcases List.mem_cons.1 h with h | h
        · exact .inl h
        · exact .inr (List.mem_cons_of_mem _ h)
      · rcases List.mem_cons.1 h with h | h
        · exact .inr (by rw [h]; exact List.mem_cons_self)
        · rcases tset_in k v l x h with h | h
          · exact .inl h
          · exact .inr (List.mem_cons_of_mem _ h)
theorem lastT_all (u : List (Nat × List UInt8)) (hu : ∀ x ∈ u, x.1 < 4294967296 ∧ x.2.length ≤ 2000) : ∀ acc : List (Nat × List UInt8), upTags 0 acc → (∀ x ∈ acc, x.2.length ≤ 2000) →
    upTags 0 (u.foldl (fun a x => tset x.1 x.2 a) acc) ∧ (∀ x ∈ u.foldl (fun a x => tset x.1 x.2 a) acc, x.2.length ≤ 2000) ∧ (u.foldl (fun a x => tset x.1 x.2 a) acc).length ≤ u.length + acc.length := by
  induction u with
  | nil => intro acc h1 h2; exact ⟨h1, h2, by simp⟩
  | cons y u ih =>
    intro acc h1 h2
    have hy := hu y (by simp)
    have h3 : upTags 0 (tset y.1 y.2 acc) := by
      have := upTags_tset y.1 y.2 hy.1 (by omega) acc 0 h1
      rwa [Nat.zero_min] at this
    have h4 : ∀ x ∈ tset y.1 y.2 acc, x.2.length ≤ 2000 := fun x hx => by
      rcases tset_in _ _ _ x hx with rfl | h
      · exact hy.2
      · exact h2 x h
    obtain ⟨a, b, c⟩ := ih (fun x hx => hu x (List.mem_cons_of_mem _ hx)) _ h3 h4
    refine ⟨a, b, ?_⟩
    have h5 := (tset_use y.1 y.2 acc).2
    simp only [List.foldl_cons, List.length_cons]
    omega
theorem lastT_up {u : List (Nat × List UInt8)} (hu : ∀ x ∈ u, x.1 < 4294967296 ∧ x.2.length ≤ 2000) : upTags 0 (lastT u) ∧ (∀ x ∈ lastT u, x.2.length ≤ 2000) ∧ (lastT u).length ≤ u.length :=
  lastT_all u hu [] trivial (by simp)
theorem lastT_app : ∀ (l : List (Nat × List UInt8)) (b : Nat) (acc : List (Nat × List UInt8)), belowTags b acc → upTags b l → l.foldl (fun a x => tset x.1 x.2 a) acc = acc ++ l := by
  intro l
  induction l with
  | nil => intro b acc _ _; simp
  | cons x l ih =>
    obtain ⟨k, v⟩ := x
    intro b acc ha hl
    obtain ⟨h1, _, _, h4⟩ := hl
    rw [List.foldl_cons, tset_last k v acc (fun x hx => by have := ha x hx; omega), ih (k + 1) _ ?_ h4]
    · simp
    · intro x hx
      rcases List.mem_append.1 hx with h | h
      · have := ha x h; omega
      · have e : x = (k, v) := by simpa using h
        rw [e]; exact Nat.lt_succ_self k
theorem lastT_id {l : List (Nat × List UInt8)} (h : upTags 0 l) : lastT l = l := by
  have := lastT_app l 0 [] (fun x hx => by cases hx) h
  rw [List.nil_append] at this
  exact this
theorem encTags_bnd (l : List (Nat × List UInt8)) (h : ∀ x ∈ l, x.2.length ≤ 2000) : (encTags l).length ≤ 2020 * l.length := by
  induction l with
  | nil => simp [encTags]
  | cons x l ih =>
    obtain ⟨k, v⟩ := x
    have h1 := h (k, v) (by simp)
    have h2 := ih fun x hx => h x (List.mem_cons_of_mem _ hx)
    have h3 := uvEnc_max k
    have h4 := uvEnc_max v.length
    simp only [encTags, List.length_append, List.length_cons] at *
    omega
theorem uvEnc_some (n : Nat) : uvEnc n ≠ [] := by
  unfold uvEnc uvEncF
  split <;> simp
/-- Tags as octets, and what follows. -/
def dataT (want : List (Nat × List UInt8)) (rest : List UInt8) : List UInt8 := uvEnc want.length ++ encTags want ++ rest
theorem dataT_dec {want : List (Nat × List UInt8)} {rest : List UInt8} (h : upTags 0 want) (hl : want.length ≤ 50) : RK.tags.dec (dataT want rest) = some (.tags want, rest) := by
  have := dec_enc .tags (.tags want) rest rfl ⟨h, by omega⟩
  exact this
theorem dataT_len {want : List (Nat × List UInt8)} {rest : List UInt8} (hl : want.length ≤ 50) (hv : ∀ x ∈ want, x.2.length ≤ 2000) (hr : rest.length ≤ 2000) : (dataT want rest).length ≤ 1000000 ∧ dataT want rest ≠ [] ∧ (encTags want).length ≤ 110000 := by
  have h1 := encTags_bnd want hv
  have h2 := uvEnc_max want.length
  have h3 : 0 < (uvEnc want.length).length := List.length_pos_iff.2 (uvEnc_some _)
  have h4 : (encTags want).length ≤ 110000 := by omega
  refine ⟨?_, ?_, h4⟩
  · unfold dataT; simp only [List.length_append]; omega
  · intro e
    have := congrArg List.length e
    unfold dataT at this; simp only [List.length_append, List.length_nil] at this; omega

section
variable {H : Type} {enc : TypeId × Value → H} {P : Program} {W : World}
/-- A list of tags that came in as data. -/
theorem tgs_open {t TG sl u8 u32 : Nat} (ht : P.underlying t = some (.slice TG)) (g0 : FldAt P TG 0 0 u32) (g1 : FldAt P TG 1 1 sl) (ts : P.underlying sl = some (.slice u8)) (t8 : P.underlying u8 = some (.int .u8)) (t32 : P.underlying u32 = some (.int .u32)) (cG : P.cellsOf TG = 2) (c8 : P.cellsOf u8 = 1) (cs : P.cellsOf sl = 1) (c32 : P.cellsOf u32 = 1)
    {b0 : Nat} {r : Reach} {v : Value} {d : DataW H} {ps : List MemPlace} (hval : Value.okWide P W r b0 t v) (h : DataW.Trod enc P W 0 (fun _ => true) true t v d ps) : ∃ u A c, v = .slice A u.length c ∧ TgsC W W.heap.size u v := by
  obtain ⟨a0, len, cap, rfl⟩ := okWide_slice ht hval
  obtain ⟨fuel, hf⟩ := h
  obtain ⟨u, v, f, hv, hsl, hel, _⟩ := things_trod (Z := False) (bk := fun _ => 0) (bks := fun _ => 0) ht cG ((0, []) : Nat × List UInt8) (fun c y => y.1 < 4294967296 ∧ ∃ vv, c = [.int .u32 y.1, vv] ∧ Oc W W.heap.size vv y.2) (fun h => h.elim) (fun _ => 0) (fun n c y hn h => by
    have hl := struct_len g0 h
    rw [cG] at hl
    obtain ⟨a, b, rfl⟩ : ∃ a b, c = [a, b] := by
      match c, hl with
      | [a, b], _ => exact ⟨a, b, rfl⟩
    obtain ⟨n, y0, l0, _, h0, e0, k0⟩ := field_trod g0 c32 h
    obtain ⟨m, y1, l1, _, h1, e1, k1⟩ := field_trod g1 cs h
    simp at h0 h1
    obtain ⟨q, hq, hy0, hw⟩ := DataW.trod_int t32 h0
    obtain ⟨bs, v, hv, ho⟩ := oc_trod ts t8 c8 h1
    have e1 : a = .int .u32 q := by simpa using hq
    have e2 : b = v := by simpa using hv
    subst e1; subst e2
    have hr : 0 ≤ q ∧ q ≤ 4294967295 := by simpa [Lit.wf, IntKind.min, IntKind.max, IntKind.signed, IntKind.bits] using hw
    refine ⟨(q.toNat, bs), ⟨by simp only []; omega, b, ?_, ho⟩, fun z => z.elim⟩
    simp only []
    congr 2
    omega) hf (by decide)
  have : v = .slice a0 len cap := by simpa [Value.cells] using hv.symm
  subst this
  obtain ⟨A, c, e, _⟩ := hsl.sl
  exact ⟨u, A, c, e, f, hsl, fun j x hx => hel j x hx⟩
end
end Go.Proofs.Ythlfepgcjomhpaa.Kf
