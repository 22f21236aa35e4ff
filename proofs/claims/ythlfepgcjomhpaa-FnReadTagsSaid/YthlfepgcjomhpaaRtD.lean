/- The reference's tags: what was set last, in order. -/
import Derived.Test.YthlfepgcjomhpaaPG
import Derived.Test.YthlfepgcjomhpaaRtB
import Derived.Deep.MidRow
import Derived.Test.YthlfepgcjomhpaaRtP
namespace Go.Proofs.Ythlfepgcjomhpaa.Kf
set_option linter.unusedVariables false
set_option linter.unusedSimpArgs false
open Go Go.RowKit

/-- A tag is put where its number belongs, in the place of one of the same number. -/
def setT (x : TV) : List TV → List TV
  | [] => [x]
  | y :: l => if x.1.1 < y.1.1 then x :: y :: l else if x.1.1 = y.1.1 then x :: l else y :: setT x l
theorem setT_fst (x : TV) : ∀ l : List TV, (setT x l).map Prod.fst = tset x.1.1 x.1.2 (l.map Prod.fst)
  | [] => rfl
  | y :: l => by
    obtain ⟨⟨a, b⟩, v⟩ := y
    simp only [setT, List.map_cons, tset]
    split
    · rfl
    · split
      · rfl
      · simp [setT_fst x l]
theorem setT_eq (x : TV) : ∀ (l : List TV) (i : Nat) (h : i < l.length), (∀ j (h : j < l.length), j < i → l[j].1.1 < x.1.1) → l[i].1.1 = x.1.1 → setT x l = l.set i x
  | [], i, h, _, _ => by simp at h
  | y :: l, 0, h, _, he => by
    have he' : y.1.1 = x.1.1 := he
    simp only [setT, List.set_cons_zero]
    rw [if_neg (by omega), if_pos he'.symm]
  | y :: l, i + 1, h, hl, he => by
    have h0 : y.1.1 < x.1.1 := hl 0 (by simp) (by omega)
    simp only [setT, List.set_cons_succ]
    rw [if_neg (by omega), if_neg (by omega), setT_eq x l i (by simpa using h) (fun j hj hji => hl (j + 1) (by simpa using hj) (by omega)) he]
theorem setT_ins (x : TV) : ∀ (l : List TV) (i : Nat), i ≤ l.length → (∀ j (h : j < l.length), j < i → l[j].1.1 < x.1.1) → (∀ h : i < l.length, x.1.1 < l[i].1.1) → setT x l = l.take i ++ x :: l.drop i
  | [], i, h, _, _ => by simp [setT]
  | y :: l, 0, h, _, he => by
    have he' : x.1.1 < y.1.1 := he (by simp)
    simp only [setT, List.take_zero, List.drop_zero, List.nil_append]
    rw [if_pos he']
  | y :: l, i + 1, h, hl, he => by
    have h0 : y.1.1 < x.1.1 := hl 0 (by simp) (by omega)
    simp only [setT, List.take_succ_cons, List.drop_succ_cons, List.cons_append]
    rw [if_neg (by omega), if_neg (by omega), setT_ins x l i (by simpa using h) (fun j hj hji => hl (j + 1) (by simpa using hj) (by omega)) (fun h => he (by simpa using h))]
theorem setT_mem (x : TV) : ∀ l : List TV, ∀ e ∈ setT x l, e = x ∨ e ∈ l
  | [], e, h => by simpa [setT] using h
  | y :: l, e, h => by
    simp only [setT] at h
    split at h
    · simp at h ⊢; rcases h with h | h | h <;> simp [h]
    · split at h
      · simp at h ⊢; rcases h with h | h <;> simp [h]
      · rcases List.mem_cons.1 h with h | h
        · simp [h]
        · rcases setT_mem x l e h with h | h <;> simp [h]
theorem setT_len (x : TV) : ∀ l : List TV, (setT x l).length ≤ l.length + 1
  | [] => Nat.le_refl _
  | y :: l => by
    simp only [setT]
    split
    · simp
    · split
      · simp
      · have := setT_len x l; simp; omega
/-- A row is written behind a row, nil or not. -/
theorem wp_rows {P : Program} {ops : Array Oper} {rest : List Oper} {o : Oper} {a : Act} {w : World} {Q : Exit → Act → World → Prop} (hgd : o.guard = none) (s x : Operand) (t : TypeId)
    (ho : o.op = .call { callee := .builtin .append, args := #[s, x], argTypes := #[t, t] })
    (base : Nat) (e : TypeId) (i : TypeInfo) (z : Value) (size bytes : Nat) (ht : P.underlying t = some (.slice e)) (hi : P.info? e = some i) (hz : i.zero = some z)
    (hsize : i.size = size) (hby : i.bytes = bytes) (hzs : z.cells.size = size) (hsz : 0 < size)
    (v : Value) (n : Nat) (xs : List Value) (hs : a.eval s = v) (hown : w.ownsRow base e size v n xs)
    (xv : Value) (m : Nat) (news : List Value) (hx : a.eval x = xv) (hcase : (xv = .slice none 0 0 ∧ m = 0 ∧ news = []) ∨ ∃ ad c, xv = .slice (some ad) m c ∧ news.length = m * size ∧ (∀ j u, news[j]? = some u → w.cell? (ad.add j) = some u) ∧ ∀ u ∈ news, u.oneCell' = true)
    (h63 : n + m ≤ maxLen) (hbytes : (n + m) * bytes ≤ 140737488355328) (hbase : base ≤ w.heap.size)
    (h : ∀ v' w', w'.ownsRow base e size v' (n + m) (xs ++ news) → w.grownBy w' v.ownBlock → (v' = .slice none 0 0 ↔ v = .slice none 0 0 ∧ m = 0) → wpList P ops Q rest (a.put o.dst v') w') : wpList P ops Q (o :: rest) a w := by
  rcases hcase with ⟨rfl, rfl, rfl⟩ | ⟨ad, c, rfl, h1, h2, h3⟩
  · refine wpList_plain hgd fun K hK => ?_
    have hrun := run_append_owned_none (P := P) (w := w) base t o.type e i size ht hi v n xs hown
    unfold Oper.wp
    simp [execOp, ho, resolve, invoke, builtin, hs, hx, hrun, Result.andThen]
    exact hK _ _ (h v w (by simpa using hown) ⟨rfl, rfl, rfl, Nat.le_refl _, fun _ _ _ => rfl⟩ (by simp))
  · exact wpList_append_own w hgd s x t ho base e i z size bytes ht hi hz hsize hby hzs hsz v n xs hs hown ad m c news hx h1 h2 h3 h63 hbytes hbase h

/-- The tags so far. -/
def LtR (w : World) (B : Nat) (u : List (Nat × List UInt8)) (j : Nat) (v : Value) (wr : World) : Prop :=
  ∃ acc : List TV, acc.map Prod.fst = lastT (u.take j) ∧ (∀ e ∈ acc, Oc wr B e.2 e.1.2 ∧ e.1.1 < 4294967296) ∧ acc.length ≤ j ∧ Only (fun _ => False) w wr ∧
    wr.ownsRow w.heap.size 56 2 v acc.length (cells2 (acc.map cellE))
theorem LtR.next {w wr w6 : World} {B j : Nat} {u : List (Nat × List UInt8)} {v' xv : Value} {acc : List TV} (hB : B ≤ w.heap.size) (hj : j < u.length) (hac : acc.map Prod.fst = lastT (u.take j)) (hoc : ∀ e ∈ acc, Oc wr B e.2 e.1.2 ∧ e.1.1 < 4294967296) (hal : acc.length ≤ j) (ho : Only (fun _ => False) w wr)
    (hx : Oc wr B xv u[j].2) (hk : u[j].1 < 4294967296) (h6 : Only (fun _ => False) w w6) (hrow : w6.ownsRow w.heap.size 56 2 v' (setT (u[j], xv) acc).length (cells2 ((setT (u[j], xv) acc).map cellE))) : LtR w B u (j + 1) v' w6 := by
  refine ⟨setT (u[j], xv) acc, by rw [setT_fst, hac, lastT_step hj], fun e hm => ?_, by have := setT_len (u[j], xv) acc; omega, h6, hrow⟩
  have hk2 : Kept B wr w6 := Kept.via (ho.kept0 hB) (h6.kept0 hB)
  rcases setT_mem _ _ e hm with rfl | hm
  · exact ⟨hx.keep hk2, hk⟩
  · exact ⟨(hoc e hm).1.keep hk2, (hoc e hm).2⟩
end Go.Proofs.Ythlfepgcjomhpaa.Kf
