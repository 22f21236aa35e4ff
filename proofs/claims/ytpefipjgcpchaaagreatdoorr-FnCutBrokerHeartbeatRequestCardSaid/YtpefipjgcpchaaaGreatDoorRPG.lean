/- Unknown tags as the reference orders them: each is put where it belongs. -/
import Derived.Test.YtpefipjgcpchaaaGreatDoorRSpA
import Derived.Test.YtpefipjgcpchaaaGreatDoorRPS
import Derived.Laws.OwnMore
import Derived.Deep.QuietTactic
import Derived.BigQuiet
import Derived.Maps.AppendAt
namespace Go.Proofs.YtpefipjgcpchaaaGreatDoorR.Kf
set_option linter.unusedVariables false
set_option linter.unusedSimpArgs false
open Go Go.RowKit

theorem msrI (n k : Nat) (v u : Value) (hk : k < n) (hv : v = .int .i64 ((k : Int) + 1)) (hu : u = .int .i64 (k : Nat)) : n - (intOf v).toNat < n - (intOf u).toNat := by
  subst hv; subst hu
  have e : (intOf (.int .i64 ((k : Int) + 1))).toNat = k + 1 := by show ((k : Int) + 1).toNat = k + 1; omega
  have e2 : (intOf (.int .i64 (k : Nat))).toNat = k := by show ((k : Nat) : Int).toNat = k; omega
  rw [e, e2]; omega
theorem msrD (i p : Nat) (v u : Value) (h : i ≤ p) (hv : v = .int .i64 (p : Nat)) (hu : u = .int .i64 ((p : Int) + 1)) : (intOf v).toNat - i < (intOf u).toNat - i := by
  subst hv; subst hu
  have e : (intOf (.int .i64 ((p : Int) + 1))).toNat = p + 1 := by show ((p : Int) + 1).toNat = p + 1; omega
  have e2 : (intOf (.int .i64 (p : Nat))).toNat = p := by show ((p : Nat) : Int).toNat = p; omega
  rw [e, e2]; omega
/-- A tag and the value that its octets lie in. -/
abbrev TV := (Nat × List UInt8) × Value
def insT (x : TV) : List TV → List TV
  | [] => [x]
  | y :: l => if y.1.1 < x.1.1 then y :: insT x l else if y.1.1 = x.1.1 then y :: l else x :: y :: l
theorem insT_fst (x : TV) : ∀ l : List TV, (insT x l).map Prod.fst = insU x.1 (l.map Prod.fst) := by
  intro l
  induction l with
  | nil => rfl
  | cons y l ih =>
    simp only [insT, insU, List.map_cons]
    split
    · simp [ih]
    · split <;> simp
theorem insT_len (x : TV) : ∀ l : List TV, (insT x l).length ≤ l.length + 1 := by
  intro l
  induction l with
  | nil => simp [insT]
  | cons y l ih =>
    unfold insT
    split
    · simp; omega
    · split <;> simp
theorem insT_mem (x : TV) : ∀ l : List TV, ∀ e ∈ insT x l, e = x ∨ e ∈ l := by
  intro l
  induction l with
  | nil => intro e he; simp [insT] at he; exact .inl he
  | cons y l ih =>
    intro e he
    unfold insT at he
    split at he
    · rcases List.mem_cons.1 he with rfl | he
      · exact .inr (by simp)
      · rcases ih e he with h | h
        · exact .inl h
        · exact .inr (by simp [h])
    · split at he
      · exact .inr he
      · rcases List.mem_cons.1 he with rfl | he
        · exact .inl rfl
        · exact .inr he
/-- Where it belongs. -/
theorem insT_at (x : TV) : ∀ (l : List TV) (i : Nat), i ≤ l.length → (∀ j (h : j < l.length), j < i → l[j].1.1 < x.1.1) → (∀ h : i < l.length, ¬ l[i].1.1 < x.1.1) →
    insT x l = if ∃ h : i < l.length, l[i].1.1 = x.1.1 then l else l.take i ++ x :: l.drop i := by
  intro l
  induction l with
  | nil =>
    intro i hi _ _
    rw [if_neg (by rintro ⟨h, _⟩; simp at h)]
    simp [insT]
  | cons y l ih =>
    intro i hi h1 h2
    cases i with
    | zero =>
      have h3 := h2 (by simp)
      simp only [List.getElem_cons_zero] at h3
      unfold insT
      rw [if_neg h3]
      by_cases h4 : y.1.1 = x.1.1
      · rw [if_pos h4, if_pos ⟨by simp, by simpa using h4⟩]
      · rw [if_neg h4, if_neg (by rintro ⟨_, h⟩; exact h4 (by simpa using h))]
        simp
    | succ i =>
      have h0 := h1 0 (by simp) (by omega)
      simp only [List.getElem_cons_zero] at h0
      have := ih i (by simpa using hi) (fun j hj hij => by have := h1 (j + 1) (by simpa using hj) (by omega); simpa using this) (fun h => by have := h2 (by simpa using h); simpa using this)
      unfold insT
      rw [if_pos h0, this]
      by_cases h4 : ∃ h : i < l.length, l[i].1.1 = x.1.1
      · obtain ⟨h5, h6⟩ := h4
        rw [if_pos ⟨h5, h6⟩, if_pos ⟨by simpa using h5, by simpa using h6⟩]
      · rw [if_neg h4, if_neg (by rintro ⟨h5, h6⟩; exact h4 ⟨by simpa using h5, by simpa using h6⟩)]
        simp

/-- Pairs of cells in a row. -/
def cells2 (l : List (Value × Value)) : List Value := (l.map fun e => [e.1, e.2]).flatten
theorem cells2_cons (e : Value × Value) (l : List (Value × Value)) : cells2 (e :: l) = e.1 :: e.2 :: cells2 l := rfl
theorem cells2_len (l : List (Value × Value)) : (cells2 l).length = l.length * 2 := by
  induction l with
  | nil => rfl
  | cons e l ih => rw [cells2_cons, List.length_cons, List.length_cons, ih, List.length_cons]; omega
theorem cells2_app (l k : List (Value × Value)) : cells2 (l ++ k) = cells2 l ++ cells2 k := by simp [cells2]
theorem cells2_fst : ∀ (l : List (Value × Value)) (i : Nat) (h : i < l.length), (cells2 l)[i * 2]? = some l[i].1 := by
  intro l
  induction l with
  | nil => intro i h; simp at h
  | cons e l ih =>
    intro i h
    cases i with
    | zero => rfl
    | succ i =>
      rw [cells2_cons, show (i + 1) * 2 = i * 2 + 1 + 1 by omega, List.getElem?_cons_succ, List.getElem?_cons_succ]
      exact ih i (by simpa using h)
theorem cells2_snd : ∀ (l : List (Value × Value)) (i : Nat) (h : i < l.length), (cells2 l)[i * 2 + 1]? = some l[i].2 := by
  intro l
  induction l with
  | nil => intro i h; simp at h
  | cons e l ih =>
    intro i h
    cases i with
    | zero => rfl
    | succ i =>
      rw [cells2_cons, show (i + 1) * 2 + 1 = i * 2 + 1 + 1 + 1 by omega, List.getElem?_cons_succ, List.getElem?_cons_succ]
      exact ih i (by simpa using h)
theorem cells2_set : ∀ (l : List (Value × Value)) (i : Nat) (a b : Value), i < l.length → ((cells2 l).set (i * 2) a).set (i * 2 + 1) b = cells2 (l.set i (a, b)) := by
  intro l
  induction l with
  | nil => intro i a b h; simp at h
  | cons e l ih =>
    intro i a b h
    cases i with
    | zero => rfl
    | succ i =>
      have := ih i a b (by simpa using h)
      rw [cells2_cons, show (i + 1) * 2 = i * 2 + 1 + 1 by omega, List.set_cons_succ, List.set_cons_succ, List.set_cons_succ, List.set_cons_succ, this]
      rfl
def cellE (e : TV) : Value × Value := (.int .u32 e.1.1, e.2)
/-- One place on. -/
theorem shift_set {α : Type} (l : List α) (q : Nat) (x : α) (hq : q + 1 ≤ l.length) : ((l.take (q + 1)) ++ x :: l.drop (q + 1)).set (q + 1) l[q] = l.take (q + 1) ++ l[q] :: l.drop (q + 1) := by
  rw [List.set_append_right _ _ (by simp; omega)]
  have : q + 1 - (l.take (q + 1)).length = 0 := by simp; omega
  rw [this]; rfl
theorem shift_view {α : Type} (l : List α) (q : Nat) (hq : q + 1 ≤ l.length) : l.take (q + 1) ++ l[q] :: l.drop (q + 1) = l.take q ++ l[q] :: l.drop q := by
  have e1 := List.take_succ_eq_append_getElem (l := l) (i := q) (by omega)
  have e2 := List.drop_eq_getElem_cons (l := l) (i := q) (by omega)
  rw [e1, e2, List.append_assoc]
  rfl
theorem shift_get {α : Type} (l : List α) (q : Nat) (x : α) (hq : q + 1 ≤ l.length) (h : q < (l.take (q + 1) ++ x :: l.drop (q + 1)).length) : (l.take (q + 1) ++ x :: l.drop (q + 1))[q] = l[q] := by
  rw [List.getElem_append_left (by simp; omega)]
  simp
theorem shift_end {α : Type} (l : List α) (i : Nat) (x t : α) (hi : i ≤ l.length) : (l.take i ++ x :: l.drop i).set i t = l.take i ++ t :: l.drop i := by
  rw [List.set_append_right _ _ (by simp; omega)]
  have : i - (l.take i).length = 0 := by simp; omega
  rw [this]; rfl

theorem unkS_step {l : List (Nat × List UInt8)} {j : Nat} (h : j < l.length) : (l.take (j + 1)).foldl (fun out x => if x.1 < 0 then out else insU x out) [] = insU l[j] ((l.take j).foldl (fun out x => if x.1 < 0 then out else insU x out) []) := by
  rw [List.take_succ_eq_append_getElem h, List.foldl_append]
  rfl
end Go.Proofs.YtpefipjgcpchaaaGreatDoorR.Kf

namespace Go.Proofs.YtpefipjgcpchaaaGreatDoorR.Kf
set_option linter.unusedVariables false
set_option linter.unusedSimpArgs false
open Go Go.RowKit

set_option maxRecDepth 100000 in
theorem sp_known (w : World) (B : Nat) (fs : List Fld) (v : Value) (hB : B ≤ w.heap.size) (hFs : FldsC w B fs v) (htag : ∀ f ∈ fs, f.tag < 0) (hlen : fs.length ≤ 65536) :
    Calls Tryz.prog 34 #[v] w fun e w' => e = .returned (.int .u32 0) ∧ Only (fun _ => False) w w' := by
  obtain ⟨ff, hsl, _⟩ := id hFs
  obtain ⟨A, c, rfl, _⟩ := hsl.sl
  have HB := Lib.hid hB
  have HFs := Lib.hid hFs
  have HTG := Lib.hid htag
  clear hB hFs htag hsl
  go_enter Tryz.func34, Tryz.ntmps34
  go_wp2_with fail
  go_loopw [3, 8] (fun u i wr => ∃ k : Nat, k ≤ fs.length ∧ i = .int .i64 k ∧ u = .int .u32 0 ∧ Only (fun _ => False) w wr) (fun _ i _ => fs.length - (intOf i).toNat)
  case atStart => exact ⟨0, Nat.zero_le _, rfl, rfl, Only.refl _ _⟩
  case round =>
    obtain ⟨k, hk, rfl, rfl, honly⟩ := hrel
    have HW := Lib.hid honly
    clear honly
    by_cases hlt : k < fs.length
    · obtain ⟨b, o, AF, nF, cF, rfl, _, hbB, hf, e0, e1, e2, e3, e4, e5, e6, e7⟩ := (HFs.out.keep (HW.out.kept0 HB.out)).at_ hlt
      have htg : fs[k].tag < 0 := HTG.out _ (List.getElem_mem hlt)
      clear hf hbB
      generalize fs[k] = f at e0 e1 e2 e3 e4 e5 e6 e7 htg
      generalize f.kind = kind at e0
      generalize f.fr = fr at e1
      generalize f.to = to at e2
      generalize f.nu = nu at e3
      generalize f.tag = tag at e4 htg
      generalize f.df = df at e5
      generalize f.of = of at e6
      have hlt' : (k : Int) < (fs.length : Int) := by omega
      have tt : ¬ (tag ≥ 0) := by omega
      go_wp2_with fail
      go_roundw
      case rel => exact ⟨k + 1, hlt, rfl, rfl, HW.out.trans ((Only.refl _ _).alloc _)⟩
      case measure => exact msrI fs.length k _ _ hlt rfl rfl
    · have hk2 : k = fs.length := by omega
      subst hk2
      have hlt' : ¬ ((fs.length : Int) < (fs.length : Int)) := by omega
      go_wp2_with fail
      go_ret
      exact ⟨rfl, HW.out⟩

/-- The unknown tags so far. -/
def UnR (w : World) (B : Nat) (u : List (Nat × List UInt8)) (j : Nat) (v : Value) (wr : World) : Prop :=
  ∃ acc : List TV, acc.map Prod.fst = (u.take j).foldl (fun out x => if x.1 < 0 then out else insU x out) [] ∧ (∀ e ∈ acc, Oc wr B e.2 e.1.2 ∧ e.1.1 < 4294967296) ∧ acc.length ≤ j ∧ Only (fun _ => False) w wr ∧
    wr.ownsRow w.heap.size 59 2 v acc.length (cells2 (acc.map cellE))
theorem info_tagm : (Tryz.prog.info? 59).map (fun i => (i.zero, i.size, i.bytes)) = some (some (.agg #[.int .u32 0, .slice none 0 0]), 2, 32) := by kernel_rfl
theorem oc_keepN {w w' : World} {B : Nat} (hB : B ≤ w.heap.size) (O : Only (fun j => B ≤ j) w w') {v : Value} {s : List UInt8} (h : Oc w B v s) : Oc w' B v s := h.keep (O.kept hB fun k hk h => by omega)
def fT (acc : List TV) (j : Nat) : List Value := match acc[j]? with | some e => [.int .u32 e.1.1, e.2] | none => []
theorem fT_eq {acc : List TV} {j : Nat} {e : TV} (h : acc[j]? = some e) : fT acc j = [.int .u32 e.1.1, e.2] := by unfold fT; rw [h]
/-- At the end. -/
theorem UnR.done {w wr : World} {B j : Nat} {u : List (Nat × List UInt8)} {v : Value} (h : UnR w B u j v wr) (hB : B ≤ w.heap.size) (hj : min u.length most = j) : TgsC wr wr.heap.size (unkS 0 u) v ∧ Only (fun _ => False) w wr := by
  subst hj
  obtain ⟨acc, h1, h2, _, h3, h4⟩ := h
  refine ⟨?_, h3⟩
  have e : acc.map Prod.fst = unkS 0 u := by
    rw [h1]
    unfold unkS
    by_cases hm : u.length ≤ most
    · rw [Nat.min_eq_left hm, List.take_of_length_le (Nat.le_refl _), List.take_of_length_le hm]
    · rw [Nat.min_eq_right (by omega)]
  rw [← e]
  have hlt := World.ownsRow.lt h4
  have hc : ∀ g, v.ownBlock = some g → ∀ j x, (cells2 (acc.map cellE))[j]? = some x → wr.cell? ((⟨g, 0, none⟩ : Addr).add j) = some x := fun g hg => World.ownsRow.cells h4 hg
  refine ⟨fT acc, ?_, ?_⟩
  · rcases h4.2 with ⟨rfl, h0⟩ | ⟨g, cap, cur, rfl, _, hg, hn, _⟩
    · exact .inl ⟨rfl, by simpa using h0⟩
    · refine .inr ⟨⟨g, 0, none⟩, cap, by simp, by simpa using hn, fun j hj => ?_⟩
      have hj' : j < acc.length := by simpa using hj
      refine ⟨(hlt g rfl).2, by rw [fT_eq (List.getElem?_eq_getElem hj')]; rfl, fun k x hk => ?_⟩
      rw [fT_eq (List.getElem?_eq_getElem hj')] at hk
      rw [add_add]
      refine hc g rfl _ _ ?_
      have f1 := cells2_fst (acc.map cellE) j (by simpa using hj')
      have f2 := cells2_snd (acc.map cellE) j (by simpa using hj')
      match k, hk with
      | 0, hk => rw [Nat.add_zero, f1]; simpa [cellE] using hk
      | 1, hk => rw [f2]; simpa [cellE] using hk
  · intro j x hj
    rw [List.getElem?_map] at hj
    cases ha : acc[j]? with
    | none => rw [ha] at hj; cases hj
    | some e =>
      rw [ha] at hj
      simp at hj; subst hj
      have := h2 e (List.mem_of_getElem? ha)
      refine ⟨this.2, e.2, fT_eq ha, ?_⟩
      exact this.1.more (Nat.le_trans hB h3.size)
theorem owns_slice {base e size n : Nat} {w : World} {v : Value} {xs : List Value} (h : w.ownsRow base e size v n xs) : ∃ A c, v = .slice A n c ∧ (0 < n → ∃ g, A = some ⟨g, 0, none⟩) := by
  rcases h.2 with ⟨rfl, h0⟩ | ⟨g, cap, cur, rfl, _⟩
  · exact ⟨none, 0, by rw [h0], fun h => by omega⟩
  · exact ⟨_, _, rfl, fun _ => ⟨g, rfl⟩⟩
theorem cell_two_new (w : World) (x y : Value) (t : TypeId) : ∀ j u, [x, y][j]? = some u → (w.alloc (.cells #[x, y] t)).cell? ((⟨w.heap.size, 0, none⟩ : Addr).add j) = some u := by
  intro j u hj
  rw [Addr.add_lit]
  match j, hj with
  | 0, hj => simp at hj; subst hj; simp [World.cell?_alloc_new]
  | 1, hj => simp at hj; subst hj; simp [World.cell?_alloc_new]
theorem own_form4 {base e size n : Nat} {w : World} {v : Value} {xs : List Value} (h : w.ownsRow base e size v n xs) (hn : v ≠ .slice none 0 0) : ∃ g c, v = .slice (some ⟨g, 0, none⟩) n c := by
  rcases h.2 with ⟨rfl, _⟩ | ⟨g, cap, cur, rfl, _⟩
  · exact absurd rfl hn
  · exact ⟨g, cap, rfl⟩
theorem TgsC.keepU {w w' : World} {B : Nat} {u : List (Nat × List UInt8)} {v : Value} (h : TgsC w B u v) (hk : Kept B w w') : TgsC w' B u v := let ⟨f, a, b⟩ := h; ⟨f, a.keep hk, fun j x hx => let ⟨p, vv, q, r⟩ := b j x hx; ⟨p, vv, q, r.keep hk⟩⟩
theorem TgsC.at_ {w : World} {B : Nat} {u : List (Nat × List UInt8)} {A : Option Addr} {n c k : Nat} (h : TgsC w B u (.slice A n c)) (hk : k < u.length) :
    ∃ b o A1 n1 c1, A = some ⟨b, o, none⟩ ∧ n = u.length ∧ b < B ∧ u[k].1 < 4294967296 ∧ Oc w B (.slice A1 n1 c1) u[k].2 ∧ w.cell? ⟨b, o + k * 2, none⟩ = some (.int .u32 u[k].1) ∧ w.cell? ⟨b, o + k * 2 + 1, none⟩ = some (.slice A1 n1 c1) := by
  obtain ⟨f, hs, hT⟩ := h
  have hn : n = u.length := by obtain ⟨A', c', e, _⟩ := hs.sl; injection e
  obtain ⟨b, o, c', e, hc, hb, hlen, hcell⟩ := hs.lit (by decide) hk
  injection e with e1 e2 e3
  obtain ⟨h1, vv, h2, h3⟩ := hT k _ (List.getElem?_eq_getElem hk)
  rw [h2] at hcell
  obtain ⟨A1, c1, rfl, _⟩ := h3.sl
  exact ⟨b, o, A1, _, c1, e1, hn, hb, h1, h3, hcell 0 _ rfl, hcell 1 _ rfl⟩
theorem only_drew {mine : Nat → Prop} {w w' : World} (o : Only mine w w') (n : Nat) : Only mine w (w'.drewN n) := ⟨o.os, o.tape, o.output, o.size, o.block⟩
theorem row_keep0 {base e size n : Nat} {w w' : World} {v : Value} {xs : List Value} (h : w.ownsRow base e size v n xs) (ho : Only (fun _ => False) w w') : w'.ownsRow base e size v n xs := by
  have hlt := World.ownsRow.lt h
  refine ⟨h.1, ?_⟩
  rcases h.2 with h | ⟨g, cap, cur, rfl, hg, hh, r⟩
  · exact .inl h
  · exact .inr ⟨g, cap, cur, rfl, hg, (ho.block g (hlt g rfl).2 id).trans hh, r⟩
/-- A tag is being put where it belongs: the row, one longer; the tag's own box. -/
def InsS (w : World) (bx g c4 n : Nat) (x1 x2 : Value) (E : List (Value × Value)) (w4 : World) : Prop :=
  Only (fun _ => False) w w4 ∧ w4.heap[bx]? = some (.cells #[x1, x2] 59 (0, 0)) ∧ w4.ownsRow w.heap.size 59 2 (.slice (some ⟨g, 0, none⟩) (n + 1) c4) (n + 1) (cells2 E) ∧ g ≠ bx ∧ E.length = n + 1
theorem InsS.cells {w w4 : World} {bx g c4 n : Nat} {x1 x2 : Value} {E : List (Value × Value)} (h : InsS w bx g c4 n x1 x2 E w4) (q : Nat) (hq : q < E.length) :
    w4.cell? ⟨g, q * 2, none⟩ = some E[q].1 ∧ w4.cell? ⟨g, q * 2 + 1, none⟩ = some E[q].2 ∧ w4.frozen? ⟨g, q * 2, none⟩ = false ∧ w4.frozen? ⟨g, q * 2 + 1, none⟩ = false := by
  obtain ⟨_, _, hr, _, hl⟩ := h
  refine ⟨?_, ?_, hr.frozenAt _, hr.frozenAt _⟩
  · rw [World.ownsRow.cellAt hr _ (by omega)]; exact cells2_fst E q hq
  · rw [World.ownsRow.cellAt hr _ (by omega)]; exact cells2_snd E q hq
theorem InsS.box {w w4 : World} {bx g c4 n : Nat} {x1 x2 : Value} {E : List (Value × Value)} (h : InsS w bx g c4 n x1 x2 E w4) : w4.cell? ⟨bx, 0, none⟩ = some x1 ∧ w4.cell? ⟨bx, 1, none⟩ = some x2 := by
  obtain ⟨_, hb, _⟩ := h
  simp [World.cell?, hb]
theorem info_tag2 : (Tryz.prog.info? 59).map (·.size) = some 2 := by kernel_rfl
theorem InsS.there {w w4 : World} {bx g c4 n : Nat} {x1 x2 : Value} {E : List (Value × Value)} (h : InsS w bx g c4 n x1 x2 E w4) (q : Nat) (hq : q < E.length) : w4.there g (q * 2) 2 := by
  obtain ⟨d1, d2, d3, d4⟩ := h.cells q hq
  intro j hj
  match j, hj with
  | 0, _ => exact ⟨by rw [Nat.add_zero, d1]; rfl, d3⟩
  | 1, _ => exact ⟨by rw [d2]; rfl, d4⟩
theorem InsS.set {w w4 : World} {bx g c4 n : Nat} {x1 x2 : Value} {E : List (Value × Value)} (h : InsS w bx g c4 n x1 x2 E w4) (q : Nat) (hq : q < E.length) (a b : Value) :
    InsS w bx g c4 n x1 x2 (E.set q (a, b)) ((w4.setCell ⟨g, q * 2, none⟩ a).setCell ⟨g, q * 2 + 1, none⟩ b) := by
  obtain ⟨ho, hb, hr, hne, hl⟩ := h
  have hg := (World.ownsRow.lt hr g rfl).1
  obtain ⟨r1, g1⟩ := World.ownsRow.stored hr (q * 2) a
  obtain ⟨r2, g2⟩ := World.ownsRow.stored r1 (q * 2 + 1) b
  rw [cells2_set E q a b hq] at r2
  refine ⟨⟨ho.os, ho.tape, ho.output, by simpa using ho.size, fun k hk _ => ?_⟩, ?_, r2, hne, by simpa using hl⟩
  · rw [heap_setCell_other _ _ k _ (by show k ≠ g; omega), heap_setCell_other _ _ k _ (by show k ≠ g; omega)]
    exact ho.block k hk id
  · rw [heap_setCell_other _ _ bx _ (by show bx ≠ g; exact fun e => hne e.symm), heap_setCell_other _ _ bx _ (by show bx ≠ g; exact fun e => hne e.symm)]
    exact hb
/-- Behind the append. -/
theorem insS_start {w wr w4 : World} {Av : Option Addr} {n cv g c4 Q : Nat} {x1 x2 : Value} {acc : List TV} (ho : Only (fun _ => False) w wr) (hrow : wr.ownsRow w.heap.size 59 2 (.slice Av n cv) n (cells2 (acc.map cellE))) (hn : acc.length = n) {T : Obj}
    (hown' : w4.ownsRow w.heap.size 59 2 (.slice (some ⟨g, 0, none⟩) (n + 1) c4) (n + 1) (cells2 (acc.map cellE) ++ [.int .u32 0, .slice none 0 0]))
    (hg : (((wr.alloc (.cells #[x1, x2] 59)).drewN Q).alloc T).grownBy w4 (Value.slice Av n cv).ownBlock) (hb : (Value.slice (some ⟨g, 0, none⟩) (n + 1) c4).ownBlock = (Value.slice Av n cv).ownBlock ∨ (Value.slice (some ⟨g, 0, none⟩) (n + 1) c4).ownBlock = some (((wr.alloc (.cells #[x1, x2] 59)).drewN Q).alloc T).heap.size) :
    InsS w wr.heap.size g c4 n x1 x2 ((acc.map cellE).take n ++ (.int .u32 0, .slice none 0 0) :: (acc.map cellE).drop n) w4 := by
  have hlt := World.ownsRow.lt hrow
  have e1 : ((wr.alloc (.cells #[x1, x2] 59)).drewN Q).heap = (wr.alloc (.cells #[x1, x2] 59)).heap := rfl
  have hs : (((wr.alloc (.cells #[x1, x2] 59)).drewN Q).alloc T).heap.size = wr.heap.size + 2 := by simp [e1]
  have hk : ∀ k, k < wr.heap.size → (((wr.alloc (.cells #[x1, x2] 59)).drewN Q).alloc T).heap[k]? = wr.heap[k]? := fun k hk => by
    rw [(MapKept.heap_alloc _ T).2 k (by rw [e1]; simp; omega), e1, (MapKept.heap_alloc wr _).2 k hk]
  have hbx : (((wr.alloc (.cells #[x1, x2] 59)).drewN Q).alloc T).heap[wr.heap.size]? = some (.cells #[x1, x2] 59 (0, 0)) := by
    rw [(MapKept.heap_alloc _ T).2 wr.heap.size (by rw [e1]; simp), e1]; exact heap_alloc_new _ _
  have hne0 : ∀ k, (Value.slice Av n cv).ownBlock = some k → w.heap.size ≤ k ∧ k < wr.heap.size := hlt
  refine ⟨⟨hg.os.trans ho.os, hg.tape.trans ho.tape, hg.output.trans ho.output, by have := hg.size; have := ho.size; omega, fun k hkw _ => ?_⟩, ?_, ?_, ?_, ?_⟩
  · have := ho.size
    rw [hg.block k (by omega) (by intro e; have := hne0 k e.symm; omega), hk k (by omega)]
    exact ho.block k hkw id
  · rw [hg.block wr.heap.size (by omega) (by intro e; have := hne0 _ e.symm; omega)]; exact hbx
  · have hl : (acc.map cellE).length = n := by simpa using hn
    rw [List.take_of_length_le (Nat.le_of_eq hl), List.drop_of_length_le (Nat.le_of_eq hl), cells2_app]
    exact hown'
  · intro e
    rcases hb with h | h
    · have := hne0 g (by rw [← h]; rfl); omega
    · have : g = (((wr.alloc (.cells #[x1, x2] 59)).drewN Q).alloc T).heap.size := by simpa [Value.ownBlock] using h
      omega
  · simp [hn]
theorem unR_step {w wr w6 : World} {B j i g c4 n bx : Nat} {u : List (Nat × List UInt8)} {x1 x2 xv : Value} {t : Nat × List UInt8} {acc : List TV} (hB : B ≤ w.heap.size) (hac : acc.map Prod.fst = (u.take j).foldl (fun out x => if x.1 < 0 then out else insU x out) []) (hoc : ∀ e ∈ acc, Oc wr B e.2 e.1.2 ∧ e.1.1 < 4294967296) (hal : acc.length ≤ j) (ho : Only (fun _ => False) w wr)
    (hst : (u.take (j + 1)).foldl (fun out x => if x.1 < 0 then out else insU x out) [] = insU t ((u.take j).foldl (fun out x => if x.1 < 0 then out else insU x out) [])) (hx : Oc wr B xv t.2) (hk : t.1 < 4294967296) (hn : acc.length = n) (hi : i ≤ n)
    (hlow : ∀ j (h : j < acc.length), j < i → acc[j].1.1 < t.1) (hstop : ∀ h : i < acc.length, ¬ acc[i].1.1 < t.1) (hneq : ∀ h : i < acc.length, ¬ acc[i].1.1 = t.1)
    (hI : InsS w bx g c4 n x1 x2 ((acc.map cellE).take i ++ (.int .u32 t.1, xv) :: (acc.map cellE).drop i) w6) : UnR w B u (j + 1) (.slice (some ⟨g, 0, none⟩) (n + 1) c4) w6 := by
  obtain ⟨h1, h2, h3, h4, h5⟩ := hI
  have he : insT (t, xv) acc = acc.take i ++ (t, xv) :: acc.drop i := by
    rw [insT_at (t, xv) acc i (by omega) hlow hstop, if_neg (by rintro ⟨h, h'⟩; exact hneq h h')]
  have hl : (insT (t, xv) acc).length = n + 1 := by rw [he]; simp; omega
  refine ⟨insT (t, xv) acc, by rw [insT_fst, hac, hst], fun e hm => ?_, by omega, h1, ?_⟩
  · have hk2 : Kept B wr w6 := Kept.via (ho.kept0 hB) (h1.kept0 hB)
    rcases insT_mem _ _ e hm with rfl | hm
    · exact ⟨hx.keep hk2, hk⟩
    · exact ⟨(hoc e hm).1.keep hk2, (hoc e hm).2⟩
  · rw [hl, he]
    have : (acc.take i ++ (t, xv) :: acc.drop i).map cellE = (acc.map cellE).take i ++ (.int .u32 t.1, xv) :: (acc.map cellE).drop i := by
      simp [List.map_take, List.map_drop, cellE]
    rw [this]; exact h3
theorem unR_same {w wr w6 : World} {B j i n : Nat} {u : List (Nat × List UInt8)} {v xv : Value} {t : Nat × List UInt8} {acc : List TV} (hac : acc.map Prod.fst = (u.take j).foldl (fun out x => if x.1 < 0 then out else insU x out) []) (hoc : ∀ e ∈ acc, Oc wr B e.2 e.1.2 ∧ e.1.1 < 4294967296) (hal : acc.length ≤ j) (ho : Only (fun _ => False) w wr) (hB : B ≤ w.heap.size)
    (hst : (u.take (j + 1)).foldl (fun out x => if x.1 < 0 then out else insU x out) [] = insU t ((u.take j).foldl (fun out x => if x.1 < 0 then out else insU x out) [])) (hn : acc.length = n) (hi : i ≤ n)
    (hlow : ∀ j (h : j < acc.length), j < i → acc[j].1.1 < t.1) (hi2 : i < acc.length) (heq : acc[i].1.1 = t.1) (hrow : wr.ownsRow w.heap.size 59 2 v n (cells2 (acc.map cellE))) (h6 : Only (fun _ => False) wr w6) : UnR w B u (j + 1) v w6 := by
  have he : insT (t, xv) acc = acc := by
    rw [insT_at (t, xv) acc i (by omega) hlow (fun h => by rw [heq]; exact Nat.lt_irrefl _), if_pos ⟨hi2, heq⟩]
  refine ⟨acc, by rw [hst, ← hac, ← insT_fst (t, xv), he], fun e hm => ?_, by omega, ho.trans h6, ?_⟩
  · exact ⟨(hoc e hm).1.keep (h6.kept0 (Nat.le_trans hB ho.size)), (hoc e hm).2⟩
  · rw [hn]
    exact row_keep0 hrow h6

set_option maxHeartbeats 4000000 in
set_option maxRecDepth 100000 in
theorem sp_unknown (w : World) (B : Nat) (fs : List Fld) (v uv : Value) (u : List (Nat × List UInt8)) (hB : B ≤ w.heap.size) (hFs : FldsC w B fs v) (htag : ∀ f ∈ fs, f.tag < 0) (hlen : fs.length ≤ 65536) (hU : TgsC w B u uv) :
    Calls Tryz.prog 37 #[v, uv] w fun e w' => ∃ vv, e = .returned vv ∧ TgsC w' w'.heap.size (unkS 0 u) vv ∧ Only (fun _ => False) w w' := by
  obtain ⟨i0, hi, hz0, hz1, hz2⟩ := info_parts info_tagm
  have cK := Lib.hid (sp_known w B fs v hB hFs htag hlen)
  have HB := Lib.hid hB
  obtain ⟨fu, hsu, _⟩ := id hU
  obtain ⟨AU, cU, rfl, hcU⟩ := hsu.sl
  have HU := Lib.hid hU
  clear hFs htag hB hU hsu
  obtain ⟨M, hM⟩ : ∃ M, min u.length most = M := ⟨_, rfl⟩
  have hM1 : M ≤ u.length := by omega
  have hM2 : M ≤ 32767 := by unfold most at hM; omega
  have hsl : (if ((u.length : Nat) : Int) ≤ 32767 then ((u.length : Nat) : Int) else 32767) = (M : Int) := by rw [min_most, hM]
  have HMM := Lib.hid hM
  clear hM
  generalize hul : u.length = ul at *
  have hMin : ∀ w', (Builtin.min_ #[3, 3] 3 #[.int .i64 (ul : Nat), .int .i64 32767]).run Tryz.prog w' = .ok (.int .i64 (M : Nat)) w' := by
    intro w'
    rw [← hsl]
    by_cases h : ((ul : Nat) : Int) ≤ 32767
    · simp [Builtin.min_, Builtin.min2, h]; try (intros; omega)
    · simp [Builtin.min_, Builtin.min2, h]; try (intros; omega)
  clear hsl
  go_enter Tryz.func37, Tryz.ntmps37
  go_wp2_with (go_at_call 34; refine cK.out.mono ?_; rintro e1 w1 ⟨rfl, hw1⟩; have HW1 := Lib.hid hw1; clear hw1 cK)
  go_loopw [6, 19] (fun v i wr => ∃ j : Nat, j ≤ M ∧ i = .int .i64 j ∧ UnR w B u j v wr) (fun _ i _ => M - (intOf i).toNat)
  case atStart => exact ⟨0, Nat.zero_le _, rfl, [], by simp, by simp, Nat.le_refl _, HW1.out, World.ownsRow_nil _ _ _ _⟩
  case round =>
    obtain ⟨j, hj, rfl, acc, hac, hoc, hal, honly, hrow⟩ := hrel
    have HAC := Lib.hid hac
    have HOC := Lib.hid hoc
    have HO := Lib.hid honly
    have HROW := Lib.hid hrow
    have HAL := Lib.hid hal
    clear hac hoc hal
    by_cases hlt : j < M
    · have hju : j < u.length := by omega
      obtain ⟨b, o, A1, n1, c1, rfl, _, hbB, hk32, hocx, ck, cx⟩ := (TgsC.keepU HU.out (honly.kept0 HB.out)).at_ hju
      have HXO := Lib.hid hocx
      have HK32 := Lib.hid hk32
      have hstep := unkS_step hju
      have HST := Lib.hid hstep
      clear hocx hk32 hstep honly
      generalize u[j] = uj at *
      obtain ⟨key, val⟩ := uj
      simp only at ck cx HK32 HXO HST
      obtain ⟨Av, cv, rfl, hAv⟩ := owns_slice hrow
      generalize hn : acc.length = n at *
      have hlt' : ((j : Int) < (M : Int)) := by omega
      have hi0 := hi
      clear hi
      have hnj : n ≤ 32767 := by have := HAL.out; omega
      have HRA : Hid (∀ Q, (((wr.alloc (.cells #[.int .u32 key, .slice A1 n1 c1] 59)).drewN Q).alloc (.cells #[.int .u32 0, .slice none 0 0] 59)).ownsRow w.heap.size 59 2 (.slice Av n cv) n (cells2 (acc.map cellE))) :=
        Lib.hid fun Q => World.ownsRow.alloc (w := (wr.alloc (.cells #[.int .u32 key, .slice A1 n1 c1] 59)).drewN Q) (World.ownsRow.alloc HROW.out (.cells #[.int .u32 key, .slice A1 n1 c1] 59)) _
      have HCT : Hid (∀ Q, ∀ jj uu, [Value.int .u32 0, .slice none 0 0][jj]? = some uu → (((wr.alloc (.cells #[.int .u32 key, .slice A1 n1 c1] 59)).drewN Q).alloc (.cells #[.int .u32 0, .slice none 0 0] 59)).cell? ((⟨wr.heap.size + 1, 0, none⟩ : Addr).add jj) = some uu) :=
        Lib.hid fun Q jj uu h => by
          have h2 := cell_two_new ((wr.alloc (.cells #[.int .u32 key, .slice A1 n1 c1] 59)).drewN Q) (.int .u32 0) (.slice none 0 0) 59 jj uu h
          have e1 : ((wr.alloc (.cells #[.int .u32 key, .slice A1 n1 c1] 59)).drewN Q).heap.size = wr.heap.size + 1 := by
            have : ((wr.alloc (.cells #[.int .u32 key, .slice A1 n1 c1] 59)).drewN Q).heap = (wr.alloc (.cells #[.int .u32 key, .slice A1 n1 c1] 59)).heap := rfl
            rw [this]; simp
          rw [e1] at h2
          exact h2
      have HSZ : Hid (∀ Q, w.heap.size ≤ (((wr.alloc (.cells #[.int .u32 key, .slice A1 n1 c1] 59)).drewN Q).alloc (.cells #[.int .u32 0, .slice none 0 0] 59)).heap.size) :=
        Lib.hid fun Q => by have := HO.out.size; have e1 : ((wr.alloc (.cells #[.int .u32 key, .slice A1 n1 c1] 59)).drewN Q).heap = (wr.alloc (.cells #[.int .u32 key, .slice A1 n1 c1] 59)).heap := rfl; simp [e1]; omega
      go_wp2_with fail
      go_loopw [9] (fun iv w2 => ∃ i : Nat, i ≤ n ∧ iv = .int .i64 i ∧ (∀ i' (h : i' < acc.length), i' < i → acc[i'].1.1 < key) ∧ ∃ q, w2 = (wr.alloc (.cells #[.int .u32 key, .slice A1 n1 c1] 59)).drewN q) (fun iv _ => n - (intOf iv).toNat)
      case atStart => exact ⟨0, Nat.zero_le _, rfl, fun _ _ h => by omega, 0, rfl⟩
      case round =>
        obtain ⟨i, hi, rfl, hlow, q, rfl⟩ := hrel
        have hk0 : decide ((key : Int) < 0) = false := by simp
        by_cases hin : i < n
        · have hii : decide ((i : Int) < (n : Int)) = true := by simp; omega
          obtain ⟨gA, rfl⟩ := hAv (by omega)
          have hia : i < acc.length := by omega
          have hr2 : (wr.alloc (.cells #[.int .u32 key, .slice A1 n1 c1] 59)).ownsRow w.heap.size 59 2 (.slice (some ⟨gA, 0, none⟩) n cv) n (cells2 (acc.map cellE)) := World.ownsRow.alloc HROW.out (.cells #[.int .u32 key, .slice A1 n1 c1] 59)
          have ce : (wr.alloc (.cells #[.int .u32 key, .slice A1 n1 c1] 59)).cell? ⟨gA, i * 2, none⟩ = some (.int .u32 acc[i].1.1) := by
            rw [World.ownsRow.cellAt hr2 _ (by omega), cells2_fst (acc.map cellE) i (by simpa using hia)]; simp [cellE]
          have hlow2 : acc[i].1.1 < key → ∀ i' (h : i' < acc.length), i' < i + 1 → acc[i'].1.1 < key := fun h i' h2 h3 => by
            by_cases e : i' = i
            · subst e; exact h
            · exact hlow i' h2 (by omega)
          have HL2 := Lib.hid hlow2
          have hgi : ∀ h : i < acc.length, acc[i].1.1 = acc[i].1.1 := fun _ => rfl
          obtain ⟨kk, hkk⟩ : ∃ kk, acc[i].1.1 = kk := ⟨_, rfl⟩
          rw [hkk] at ce
          have HKK := Lib.hid hkk
          clear hlow2 hgi hr2
          by_cases hc1 : kk < key
          · have hc1' : decide ((kk : Int) < (key : Int)) = true := by simp; omega
            go_wp2_with fail
            go_quiet (fail)
            go_wp2_with fail
            go_roundw
            case rel => exact ⟨i + 1, by omega, rfl, HL2.out (by rw [HKK.out]; exact hc1), _, rfl⟩
            case measure => exact msrI n i _ _ hin rfl rfl
          · have hc1' : decide ((kk : Int) < (key : Int)) = false := by simp; omega
            by_cases hc2 : kk = key
            · have hc2' : decide ((kk : Int) = (key : Int)) = true := by simp; omega
              have HU6 := Lib.hid (fun w6 (h : Only (fun _ => False) wr w6) => unR_same (B := B) (u := u) (xv := Value.slice A1 n1 c1) (t := (key, val)) HAC.out HOC.out (by rw [hn]; exact HAL.out) HO.out HB.out HST.out hn hi hlow hia (by rw [HKK.out]; exact hc2) HROW.out h)
              go_wp2_with fail
              go_quiet (fail)
              go_wp2_with fail
              go_quiet (fail)
              go_wp2_with fail
              go_roundw
              case rel => exact ⟨j + 1, hlt, rfl, HU6.out _ (only_drew ((Only.refl _ _).alloc _) _)⟩
              case measure => exact msrI M j _ _ hlt rfl rfl
            · have hc2' : decide ((kk : Int) = (key : Int)) = false := by simp; omega
              have HSTOP : Hid (∀ h : i < acc.length, ¬ acc[i].1.1 < key) := Lib.hid fun h => by rw [HKK.out]; omega
              have HNEQ : Hid (∀ h : i < acc.length, ¬ acc[i].1.1 = key) := Lib.hid fun h => by rw [HKK.out]; omega
              go_wp2_with fail
              go_quiet (fail)
              go_wp2_with fail
              go_quiet (fail)
              go_wp2_with (first
                | (at_builtin; refine wpList_append_own_at _ rfl _ _ 24 rfl w.heap.size 59 i0 (.agg #[.int .u32 0, .slice none 0 0]) 2 32 Tryz.underlying24 hi0 hz0 hz1 hz2 rfl (by decide) _ n _ rfl (HRA.out _) ⟨_, 0, none⟩ 1 1 [.int .u32 0, .slice none 0 0] rfl rfl (HCT.out _) (by simp [Value.oneCell']) (by unfold maxLen; omega) (by omega) (HSZ.out _) ?_
                   intro v4 w4 ho4 hg4 hnil4 hbk4
                   obtain ⟨g, c4, e4⟩ := own_form4 ho4 (fun e => by have := (hnil4.1 e).2; omega)
                   subst e4
                   have HI := Lib.hid (insS_start HO.out HROW.out hn ho4 hg4 hbk4)
                   clear ho4 hg4 hnil4 hbk4
                   go_frame)
                | fail)
              go_loopw [10] (fun kv w5 => ∃ (p : Nat) (x : Value × Value), i ≤ p ∧ p ≤ n ∧ kv = .int .i64 p ∧ InsS w wr.heap.size g c4 n (.int .u32 key) (.slice A1 n1 c1) ((acc.map cellE).take p ++ x :: (acc.map cellE).drop p) w5) (fun kv _ => (intOf kv).toNat - i)
              case atStart => exact ⟨n, _, hi, Nat.le_refl _, by simp, HI.out⟩
              case round =>
                obtain ⟨p, x, hip, hpn, hkv, hI⟩ := hrel
                have HI2 := Lib.hid hI
                by_cases hlp : i < p
                · obtain ⟨p', rfl⟩ : ∃ p', p = p' + 1 := ⟨p - 1, by omega⟩
                  rw [show (((p' + 1 : Nat) : Int)) = (p' : Int) + 1 from rfl] at hkv
                  subst hkv
                  have hlE : ((acc.map cellE).take (p' + 1) ++ x :: (acc.map cellE).drop (p' + 1)).length = n + 1 := hI.2.2.2.2
                  have hpa : p' < (acc.map cellE).length := by simp [hn]; omega
                  obtain ⟨d1, d2, d3, d4⟩ := hI.cells (p' + 1) (by omega)
                  obtain ⟨k1, k2, _, _⟩ := hI.cells p' (by omega)
                  have hget := shift_get (acc.map cellE) p' x (by omega) (by omega)
                  rw [hget] at k1 k2
                  have hset := hI.set (p' + 1) (by omega) (acc.map cellE)[p'].1 (acc.map cellE)[p'].2
                  rw [show ((acc.map cellE)[p'].1, (acc.map cellE)[p'].2) = (acc.map cellE)[p'] from rfl, shift_set _ p' x (by omega), shift_view _ p' (by omega)] at hset
                  have HSET := Lib.hid hset
                  have hmem : acc[p']'(by simpa using hpa) ∈ acc := List.getElem_mem _
                  obtain ⟨A5, c5, h5, _⟩ := (HOC.out _ hmem).1.sl
                  have e5 : (acc.map cellE)[p'] = (.int .u32 (acc[p']'(by simpa using hpa)).1.1, .slice A5 (acc[p']'(by simpa using hpa)).1.2.length c5) := by simp [cellE, h5]
                  rw [e5] at k1 k2 HSET
                  simp only at k1 k2 HSET
                  have hx1 := hI.cells (p' + 1) (by omega)
                  generalize (((acc.map cellE).take (p' + 1) ++ x :: (acc.map cellE).drop (p' + 1))[p' + 1]'(by omega)).1 = o1 at d1
                  generalize (((acc.map cellE).take (p' + 1) ++ x :: (acc.map cellE).drop (p' + 1))[p' + 1]'(by omega)).2 = o2 at d2
                  generalize (acc[p']'(by simpa using hpa)).1.1 = kk at *
                  generalize (acc[p']'(by simpa using hpa)).1.2.length = ll at *
                  have g1 : ((p' : Int) + 1 > (i : Int)) := by omega
                  have g2 : ((p' : Int) < (n : Int) + 1) := by omega
                  have g3 : ((p' : Int) + 1 < (n : Int) + 1) := by omega
                  have HTH := Lib.hid (hI.there (p' + 1) (by omega))
                  clear hI hget hset hmem e5 hx1 h5
                  obtain ⟨w5, hw5⟩ : ∃ w5, w5 = wr.setCells g ((p' + 1) * 2) (#[.int .u32 kk, .slice A5 ll c5] : Array Value).toList := ⟨_, rfl⟩
                  have HSET2 : Hid (InsS w _ g c4 n _ _ _ w5) := Lib.hid (by rw [hw5]; exact HSET.out)
                  have HW5 := Lib.hid hw5
                  have H1C : Hid ((#[.int .u32 kk, .slice A5 ll c5] : Array Value).all (·.oneCell') = true) := Lib.hid (all_oneCell_toArray (cs := [.int .u32 kk, .slice A5 ll c5]) (by intro v hv; simp at hv; rcases hv with rfl | rfl <;> rfl))
                  clear hw5 HSET HI2
                  go_wp2_with (first | (refine wpList_store_mid rfl 59 (.tmp 78) (.tmp 77) rfl g ((p' + 1) * 2) #[.int .u32 kk, .slice A5 ll c5] rfl rfl HTH.out info_tag2 H1C.out ?_; rw [← HW5.out]; clear HW5 HTH; go_frame) | fail)
                  go_roundw
                  case rel => exact ⟨p', _, by omega, by omega, rfl, HSET2.out⟩
                  case measure => exact msrD i p' _ _ (by omega) rfl rfl
                · obtain rfl : i = p := by omega
                  subst hkv
                  obtain ⟨b1, b2⟩ := hI.box
                  have hset := hI.set i (by rw [hI.2.2.2.2]; omega) (.int .u32 key) (.slice A1 n1 c1)
                  rw [shift_end _ i _ _ (by simp [hn]; omega)] at hset
                  have HTH := Lib.hid (hI.there i (by rw [hI.2.2.2.2]; omega))
                  obtain ⟨w5, hw5⟩ : ∃ w5, w5 = wr.setCells g (i * 2) (#[.int .u32 key, .slice A1 n1 c1] : Array Value).toList := ⟨_, rfl⟩
                  have HSET2 : Hid (InsS w _ g c4 n _ _ _ w5) := Lib.hid (by rw [hw5]; exact hset)
                  have HW5 := Lib.hid hw5
                  have H1C : Hid ((#[.int .u32 key, .slice A1 n1 c1] : Array Value).all (·.oneCell') = true) := Lib.hid (all_oneCell_toArray (cs := [.int .u32 key, .slice A1 n1 c1]) (by intro v hv; simp at hv; rcases hv with rfl | rfl <;> rfl))
                  have g2 : ((i : Int) < (n : Int) + 1) := by omega
                  clear hw5 hset hI HI2
                  go_wp2_with (first | (refine wpList_store_mid rfl 59 (.tmp 82) (.tmp 81) rfl g (i * 2) #[.int .u32 key, .slice A1 n1 c1] rfl rfl HTH.out info_tag2 H1C.out ?_; rw [← HW5.out]; clear HW5 HTH; go_frame) | fail)
                  go_roundw
                  case rel => exact ⟨j + 1, hlt, rfl, unR_step (t := (key, val)) HB.out HAC.out HOC.out (by rw [hn]; exact HAL.out) HO.out HST.out HXO.out HK32.out hn hi hlow HSTOP.out HNEQ.out HSET2.out⟩
                  case measure => exact msrI M j _ _ hlt rfl rfl
        · have hii : decide ((i : Int) < (n : Int)) = false := by simp; omega
          have HSTOP : Hid (∀ h : i < acc.length, ¬ acc[i].1.1 < key) := Lib.hid fun h => by omega
          have HNEQ : Hid (∀ h : i < acc.length, ¬ acc[i].1.1 = key) := Lib.hid fun h => by omega
          go_wp2_with fail
          go_quiet (fail)
          go_wp2_with fail
          go_quiet (fail)
          go_wp2_with (first
            | (at_builtin; refine wpList_append_own_at _ rfl _ _ 24 rfl w.heap.size 59 i0 (.agg #[.int .u32 0, .slice none 0 0]) 2 32 Tryz.underlying24 hi0 hz0 hz1 hz2 rfl (by decide) _ n _ rfl (HRA.out _) ⟨_, 0, none⟩ 1 1 [.int .u32 0, .slice none 0 0] rfl rfl (HCT.out _) (by simp [Value.oneCell']) (by unfold maxLen; omega) (by omega) (HSZ.out _) ?_
               intro v4 w4 ho4 hg4 hnil4 hbk4
               obtain ⟨g, c4, e4⟩ := own_form4 ho4 (fun e => by have := (hnil4.1 e).2; omega)
               subst e4
               have HI := Lib.hid (insS_start HO.out HROW.out hn ho4 hg4 hbk4)
               clear ho4 hg4 hnil4 hbk4
               go_frame)
            | fail)
          go_loopw [10] (fun kv w5 => ∃ (p : Nat) (x : Value × Value), i ≤ p ∧ p ≤ n ∧ kv = .int .i64 p ∧ InsS w wr.heap.size g c4 n (.int .u32 key) (.slice A1 n1 c1) ((acc.map cellE).take p ++ x :: (acc.map cellE).drop p) w5) (fun kv _ => (intOf kv).toNat - i)
          case atStart => exact ⟨n, _, hi, Nat.le_refl _, by simp, HI.out⟩
          case round =>
            obtain ⟨p, x, hip, hpn, hkv, hI⟩ := hrel
            have HI2 := Lib.hid hI
            by_cases hlp : i < p
            · obtain ⟨p', rfl⟩ : ∃ p', p = p' + 1 := ⟨p - 1, by omega⟩
              rw [show (((p' + 1 : Nat) : Int)) = (p' : Int) + 1 from rfl] at hkv
              subst hkv
              have hlE : ((acc.map cellE).take (p' + 1) ++ x :: (acc.map cellE).drop (p' + 1)).length = n + 1 := hI.2.2.2.2
              have hpa : p' < (acc.map cellE).length := by simp [hn]; omega
              obtain ⟨d1, d2, d3, d4⟩ := hI.cells (p' + 1) (by omega)
              obtain ⟨k1, k2, _, _⟩ := hI.cells p' (by omega)
              have hget := shift_get (acc.map cellE) p' x (by omega) (by omega)
              rw [hget] at k1 k2
              have hset := hI.set (p' + 1) (by omega) (acc.map cellE)[p'].1 (acc.map cellE)[p'].2
              rw [show ((acc.map cellE)[p'].1, (acc.map cellE)[p'].2) = (acc.map cellE)[p'] from rfl, shift_set _ p' x (by omega), shift_view _ p' (by omega)] at hset
              have HSET := Lib.hid hset
              have hmem : acc[p']'(by simpa using hpa) ∈ acc := List.getElem_mem _
              obtain ⟨A5, c5, h5, _⟩ := (HOC.out _ hmem).1.sl
              have e5 : (acc.map cellE)[p'] = (.int .u32 (acc[p']'(by simpa using hpa)).1.1, .slice A5 (acc[p']'(by simpa using hpa)).1.2.length c5) := by simp [cellE, h5]
              rw [e5] at k1 k2 HSET
              simp only at k1 k2 HSET
              have hx1 := hI.cells (p' + 1) (by omega)
              generalize (((acc.map cellE).take (p' + 1) ++ x :: (acc.map cellE).drop (p' + 1))[p' + 1]'(by omega)).1 = o1 at d1
              generalize (((acc.map cellE).take (p' + 1) ++ x :: (acc.map cellE).drop (p' + 1))[p' + 1]'(by omega)).2 = o2 at d2
              generalize (acc[p']'(by simpa using hpa)).1.1 = kk at *
              generalize (acc[p']'(by simpa using hpa)).1.2.length = ll at *
              have g1 : ((p' : Int) + 1 > (i : Int)) := by omega
              have g2 : ((p' : Int) < (n : Int) + 1) := by omega
              have g3 : ((p' : Int) + 1 < (n : Int) + 1) := by omega
              have HTH := Lib.hid (hI.there (p' + 1) (by omega))
              clear hI hget hset hmem e5 hx1 h5
              obtain ⟨w5, hw5⟩ : ∃ w5, w5 = wr.setCells g ((p' + 1) * 2) (#[.int .u32 kk, .slice A5 ll c5] : Array Value).toList := ⟨_, rfl⟩
              have HSET2 : Hid (InsS w _ g c4 n _ _ _ w5) := Lib.hid (by rw [hw5]; exact HSET.out)
              have HW5 := Lib.hid hw5
              have H1C : Hid ((#[.int .u32 kk, .slice A5 ll c5] : Array Value).all (·.oneCell') = true) := Lib.hid (all_oneCell_toArray (cs := [.int .u32 kk, .slice A5 ll c5]) (by intro v hv; simp at hv; rcases hv with rfl | rfl <;> rfl))
              clear hw5 HSET HI2
              go_wp2_with (first | (refine wpList_store_mid rfl 59 (.tmp 78) (.tmp 77) rfl g ((p' + 1) * 2) #[.int .u32 kk, .slice A5 ll c5] rfl rfl HTH.out info_tag2 H1C.out ?_; rw [← HW5.out]; clear HW5 HTH; go_frame) | fail)
              go_roundw
              case rel => exact ⟨p', _, by omega, by omega, rfl, HSET2.out⟩
              case measure => exact msrD i p' _ _ (by omega) rfl rfl
            · obtain rfl : i = p := by omega
              subst hkv
              obtain ⟨b1, b2⟩ := hI.box
              have hset := hI.set i (by rw [hI.2.2.2.2]; omega) (.int .u32 key) (.slice A1 n1 c1)
              rw [shift_end _ i _ _ (by simp [hn]; omega)] at hset
              have HTH := Lib.hid (hI.there i (by rw [hI.2.2.2.2]; omega))
              obtain ⟨w5, hw5⟩ : ∃ w5, w5 = wr.setCells g (i * 2) (#[.int .u32 key, .slice A1 n1 c1] : Array Value).toList := ⟨_, rfl⟩
              have HSET2 : Hid (InsS w _ g c4 n _ _ _ w5) := Lib.hid (by rw [hw5]; exact hset)
              have HW5 := Lib.hid hw5
              have H1C : Hid ((#[.int .u32 key, .slice A1 n1 c1] : Array Value).all (·.oneCell') = true) := Lib.hid (all_oneCell_toArray (cs := [.int .u32 key, .slice A1 n1 c1]) (by intro v hv; simp at hv; rcases hv with rfl | rfl <;> rfl))
              have g2 : ((i : Int) < (n : Int) + 1) := by omega
              clear hw5 hset hI HI2
              go_wp2_with (first | (refine wpList_store_mid rfl 59 (.tmp 82) (.tmp 81) rfl g (i * 2) #[.int .u32 key, .slice A1 n1 c1] rfl rfl HTH.out info_tag2 H1C.out ?_; rw [← HW5.out]; clear HW5 HTH; go_frame) | fail)
              go_roundw
              case rel => exact ⟨j + 1, hlt, rfl, unR_step (t := (key, val)) HB.out HAC.out HOC.out (by rw [hn]; exact HAL.out) HO.out HST.out HXO.out HK32.out hn hi hlow HSTOP.out HNEQ.out HSET2.out⟩
              case measure => exact msrI M j _ _ hlt rfl rfl
    · obtain rfl : j = M := by omega
      have hlt' : ¬ ((j : Int) < (j : Int)) := by omega
      have hd : TgsC wr wr.heap.size (unkS 0 u) _ ∧ Only (fun _ => False) w wr := UnR.done (j := j) ⟨acc, HAC.out, HOC.out, HAL.out, HO.out, HROW.out⟩ HB.out (by rw [hul]; exact HMM.out)
      have HD := Lib.hid hd
      clear hd hrow honly
      go_wp2_with fail
      go_ret
      exact ⟨_, rfl, HD.out⟩
end Go.Proofs.YtpefipjgcpchaaaGreatDoorR.Kf

namespace Go.Proofs.YtpefipjgcpchaaaGreatDoorR.Kf
set_option linter.unusedVariables false
set_option linter.unusedSimpArgs false
open Go Go.RowKit

def takeV (x : Nat × List UInt8) : Nat × List UInt8 := (x.1, x.2.take most)
theorem encTags_app (a b : List (Nat × List UInt8)) : encTags (a ++ b) = encTags a ++ encTags b := by
  induction a with
  | nil => rfl
  | cons x a ih => obtain ⟨k, v⟩ := x; simp [encTags, ih, List.append_assoc]
theorem encT_step {us : List (Nat × List UInt8)} {k : Nat} (h : k < us.length) : encTags ((us.map takeV).take (k + 1)) = encTags ((us.map takeV).take k) ++ (uvEnc us[k].1 ++ (uvEnc (us[k].2.take most).length ++ us[k].2.take most)) := by
  rw [List.take_succ_eq_append_getElem (by simpa using h), encTags_app]
  simp [encTags, takeV]
theorem encT_le (us : List (Nat × List UInt8)) (k : Nat) : (encTags ((us.map takeV).take k)).length ≤ (encTags (us.map takeV)).length := by
  have h : encTags (us.map takeV) = encTags ((us.map takeV).take k) ++ encTags ((us.map takeV).drop k) := by rw [← encTags_app, List.take_append_drop]
  rw [h, List.length_append]; omega
theorem trc_tgs {w : World} {B : Nat} {t : Tr} {v0 v1 v2 v3 v4 : Value} (h : TrC w B t [v0, v1, v2, v3, v4]) : TgsC w B t.u v4 := by
  cases h with
  | mk fl fu h0 h1 hs hl hL hu hU => exact ⟨fu, hu, hU⟩
theorem own_blocks {U base : Nat} {w w' : World} {v : Value} {s : List UInt8} (h : Own U base w v s) (hk : ∀ g, v.ownBlock = some g → w'.heap[g]? = w.heap[g]?) : Own U base w' v s := by
  refine ⟨h.1, ?_⟩
  rcases h.2 with h | ⟨g, cap, cur, rfl, hg, hh, r⟩
  · exact .inl h
  · exact .inr ⟨g, cap, cur, rfl, hg, (hk g rfl).trans hh, r⟩
theorem wp_app_ocg {P : Program} {ops : Array Oper} {rest : List Oper} {o : Oper} {a : Act} {Q : Exit → Act → World → Prop} {w : World} (hgd : o.guard = none) (sl x : Operand) (t : TypeId)
    (ho : o.op = .call { callee := .builtin .append, args := #[sl, x], argTypes := #[t, t] }) {base U : Nat} {i : TypeInfo} (ht : P.underlying t = some (.slice U)) (hi : P.info? U = some i) (hz : i.zero = some (.int .u8 0))
    (hsize : i.size = 1) (hby : i.bytes = 1) {v u : Value} {ds s : List UInt8} {B : Nat} (hs : a.eval sl = v) (hown : Own U base w v ds) (hx : a.eval x = u) (hu : Oc w B u s) (hb : base ≤ w.heap.size) (hl : ds.length + s.length ≤ lim2)
    (h : ∀ v' w', Own U base w' v' (ds ++ s) → Only (fun j => base ≤ j) w w' → w.grownBy w' v.ownBlock → wpList P ops Q rest (a.put o.dst v') w') : wpList P ops Q (o :: rest) a w :=
  wpList_plain hgd fun K hK => oper_app_ocg sl x t ho ht hi hz hsize hby hs hown hx hu hb hl fun v' w' h1 h2 h3 => hK _ _ (h v' w' h1 h2 h3)

set_option maxHeartbeats 4000000 in
set_option maxRecDepth 100000 in
theorem part_flex (fs : List Fld) (hlen : fs.length ≤ 65536) (htag : ∀ f ∈ fs, f.tag < 0) (hF : ∀ f ∈ fs, FieldC true f) : PartC true fs := by
  intro w B v ver t ts hB hFs hT hl
  have e : partB fs ver true t = toB fs ver true t.l fs.length ++ (uvEnc (unkV t.u).length ++ encTags (unkV t.u)) := by simp [partB, toB_all]
  rw [e] at hl ⊢
  obtain ⟨i0, hi, hz0, hz1, hz2⟩ := info_u8
  obtain ⟨ff, hsl, _⟩ := id hFs
  obtain ⟨A, c, rfl, _⟩ := hsl.sl
  obtain ⟨n, A1, n1, c1, nl, A2, n2, c2, A3, n3, c3, rfl⟩ := hT.form
  have HB := Lib.hid hB
  have HFs := Lib.hid hFs
  have HT := Lib.hid hT
  have HLT := Lib.hid hl
  have HL : Hid ((toB fs ver true t.l fs.length).length + 16 ≤ lim2) := Lib.hid (by rw [List.length_append] at hl; omega)
  have HTG := Lib.hid htag
  have HFC := Lib.hid hF
  have ht0 : TBox w.heap.size (w.alloc (.cells #[.int .i64 n, .slice A1 n1 c1, .bool nl, .slice A2 n2 c2, .slice A3 n3 c3] 26)) (.int .i64 n) (.slice A1 n1 c1) (.bool nl) (.slice A2 n2 c2) (.slice A3 n3 c3) := by
    refine ⟨by simp, ?_, ?_, ?_, ?_, ?_⟩ <;> simp [World.cell?_alloc_new]
  have HT0 := Lib.hid ht0
  clear hB hFs hT hl htag hF hsl e ht0
  go_enter Tryz.func18, Tryz.ntmps18
  go_wp2_with fail
  go_loopw [9, 23] (fun v i wr => ∃ k : Nat, k ≤ fs.length ∧ i = .int .i64 k ∧ Own 5 (w.heap.size + 1) wr v (toB fs ver true t.l k) ∧ Only (fun _ => False) w wr ∧ TBox w.heap.size wr (.int .i64 n) (.slice A1 n1 c1) (.bool nl) (.slice A2 n2 c2) (.slice A3 n3 c3))
    (fun _ i _ => fs.length - (intOf i).toNat)
  case atStart => exact ⟨0, Nat.zero_le _, rfl, World.ownsRow_nil _ _ _ _, (Only.refl _ _).alloc _, HT0.out⟩
  case round =>
    obtain ⟨k, hk, rfl, hown, honly, hbox⟩ := hrel
    have HO := Lib.hid hown
    have HW := Lib.hid honly
    have HBX := Lib.hid hbox
    clear hown honly HT0
    by_cases hlt : k < fs.length
    · obtain ⟨b, o, AF, nF, cF, rfl, _, hbB, hf, e0, e1, e2, e3, e4, e5, e6, e7⟩ := (HFs.out.keep (HW.out.kept0 HB.out)).at_ hlt
      obtain ⟨hws, y0, y1, y2, y3, y4⟩ := hbox
      have htg : fs[k].tag < 0 := HTG.out _ (List.getElem_mem hlt)
      have hstep := toB_step (ver := ver) (flex := true) (l := t.l) hlt
      have hle := toB_le fs ver true t.l (k + 1) (fs.length - (k + 1))
      rw [show k + 1 + (fs.length - (k + 1)) = fs.length by omega, hstep, List.length_append] at hle
      have hfc : FieldC true fs[k] := HFC.out _ (List.getElem_mem hlt)
      have hone : oneB fs[k] ver true (trAt t.l k) = if hasV fs[k].fr fs[k].to ver then fieldB fs[k] ver true (trAt t.l k) else [] := rfl
      generalize fs[k] = f at hf e0 e1 e2 e3 e4 e5 e6 e7 htg hstep hle hfc hone
      have HSt := Lib.hid hstep
      have HFd := Lib.hid hf
      have HC := Lib.hid hfc
      have HLe := Lib.hid (Nat.le_trans (Nat.add_le_add_right hle 16) HL.out)
      have HOne := Lib.hid hone
      have HbB := Lib.hid hbB
      have hb' : b < wr.heap.size := by have := HB.out; have := HW.out.size; omega
      have hlt' : (k : Int) < (fs.length : Int) := by omega
      have hws' : w.heap.size + 1 ≤ wr.heap.size := hws
      have hw64 : wrap64 ((k : Int) + 1) = (k : Int) + 1 := by unfold wrap64; omega
      have cH := Lib.hid (fun w' (hw : Only (fun _ => False) wr w') => sp_has w' B f _ ver (hf.keep (hw.kept0 (Nat.le_trans HB.out HW.out.size))))
      clear hstep hf hfc hone hle hbB
      generalize f.kind = kind at HFd e0 e1 e2 e3 e4 e5 e6 e7 htg cH
      generalize f.nu = nu at HFd e0 e1 e2 e3 e4 e5 e6 e7 htg cH
      generalize f.df = df at HFd e0 e1 e2 e3 e4 e5 e6 e7 htg cH
      generalize f.of = of at HFd e0 e1 e2 e3 e4 e5 e6 e7 htg cH
      generalize f.tag = tag at HFd e0 e1 e2 e3 e4 e5 e6 e7 htg cH
      have tt : decide (tag < 0) = true := by simpa using htg
      cases hhv : hasV f.fr f.to ver
      · rw [hhv] at cH
        generalize f.fr = fr at HFd e0 e1 e2 e3 e4 e5 e6 e7 cH
        generalize f.to = to at HFd e0 e1 e2 e3 e4 e5 e6 e7 cH
        go_wp2_with (go_at_call 31; refine (cH.out _ ?_).mono ?_; (exact (Only.refl _ _).alloc _); rintro e1 w1 ⟨rfl, hw1⟩; have HW1 := Lib.hid hw1; clear hw1)
        go_roundw
        case rel =>
          have O1 := ((Only.refl (fun _ => False) wr).alloc _).trans HW1.out
          refine ⟨k + 1, hlt, by go_num, ?_, HW.out.trans O1, HBX.out.keep (b0 := w.heap.size + 1) O1.lift (Nat.lt_succ_self _)⟩
          rw [HSt.out, HOne.out, hhv]
          simpa using HO.out.keep O1
        case measure => simp [intOf]; omega
      · rw [hhv] at cH
        have HH := Lib.hid hhv
        clear hhv
        generalize f.fr = fr at HFd e0 e1 e2 e3 e4 e5 e6 e7 cH
        generalize f.to = to at HFd e0 e1 e2 e3 e4 e5 e6 e7 cH
        go_wp2_with (go_at_call 31; refine (cH.out _ ?_).mono ?_; (exact (Only.refl _ _).alloc _); rintro e1 w1 ⟨rfl, hw1⟩; have HW1 := Lib.hid hw1; clear hw1)
        have O1 := Lib.hid (((Only.refl (fun _ => False) wr).alloc _).trans HW1.out)
        have HS1 := Lib.hid (And.intro (boxN HW1.out 0 rfl) (And.intro (boxN HW1.out 1 rfl) (And.intro (boxN HW1.out 2 rfl) (And.intro (boxN HW1.out 3 rfl) (And.intro (boxN HW1.out 4 rfl) (And.intro (boxN HW1.out 5 rfl) (And.intro (boxN HW1.out 6 rfl) (And.intro (boxN HW1.out 7 rfl) (HBX.out.keep (b0 := w.heap.size + 1) O1.out.lift (Nat.lt_succ_self _)).2))))))))
        have hz1' : wr.heap.size < w1.heap.size := by have := HW1.out.size; simp at this; omega
        have HZ := Lib.hid hz1'
        have HZ7 : Hid (w.heap.size < w1.heap.size) := Lib.hid (by omega)
        have HB1 : Hid (B ≤ w1.heap.size) := Lib.hid (by have := HB.out; omega)
        have cA := Lib.hid (sp_at w1.drew B t _ k HB1.out (TrC.keep (w := w) (w' := w1.drew) ((HW.out.trans O1.out).drew.kept0 HB.out) HT.out))
        have HX : Hid (fieldB f ver true (trAt t.l k) = oneB f ver true (trAt t.l k)) := Lib.hid (by rw [HOne.out, HH.out]; rfl)
        have HLF : Hid ((fieldB f ver true (trAt t.l k)).length + 16 ≤ lim2) := Lib.hid (by rw [HX.out]; have := HLe.out; omega)
        have HLE : Hid ((toB fs ver true t.l k).length + (fieldB f ver true (trAt t.l k)).length ≤ lim2) := Lib.hid (by rw [HX.out]; have := HLe.out; omega)
        clear hz1' e0 e1 e2 e3 e4 e5 e6 e7 y0 y1 y2 y3 y4
        go_region_held3 (fun w' => w'.cell? ⟨wr.heap.size, 0, none⟩ = some (.int .i64 kind) ∧ w'.cell? ⟨wr.heap.size, 1, none⟩ = some (.int .i64 fr) ∧ w'.cell? ⟨wr.heap.size, 2, none⟩ = some (.int .i64 to) ∧ w'.cell? ⟨wr.heap.size, 3, none⟩ = some (.int .i64 nu) ∧ w'.cell? ⟨wr.heap.size, 4, none⟩ = some (.int .i64 tag) ∧ w'.cell? ⟨wr.heap.size, 5, none⟩ = some (.int .i64 df) ∧ w'.cell? ⟨wr.heap.size, 6, none⟩ = some (.int .i64 of) ∧ w'.cell? ⟨wr.heap.size, 7, none⟩ = some (.slice AF nF cF) ∧ w'.cell? ⟨w.heap.size, 0, none⟩ = some (.int .i64 n) ∧ w'.cell? ⟨w.heap.size, 1, none⟩ = some (.slice A1 n1 c1) ∧ w'.cell? ⟨w.heap.size, 2, none⟩ = some (.bool nl) ∧ w'.cell? ⟨w.heap.size, 3, none⟩ = some (.slice A2 n2 c2) ∧ w'.cell? ⟨w.heap.size, 4, none⟩ = some (.slice A3 n3 c3))
          (first | exact HS1.out | exact HS2.out | exact HS3.out | exact HS4.out)
          (first
            | (refine step_app_ocg rfl _ _ 22 rfl Tryz.underlying22 hi hz0 hz1 hz2 rfl HO3.out rfl HV3.out HB3.out HLE.out ?_; intro v5 w5 ho5 hw5 hg5; have HO5 := Lib.hid ho5; have HW5 := Lib.hid hw5; have HS4 := Lib.hid (keep13 (hg5.block _ HZ3.out (own_ne HO.out (Nat.le_refl _))) (hg5.block _ HZ37.out (own_ne_low HO.out (Nat.lt_succ_self _))) HS3.out); clear ho5 hw5 hg5)
            | (go_at_call 33; refine cA.out.mono ?_; rintro e2 w2 ⟨cs2, rfl, ht2, hw2⟩; have HT2 := Lib.hid ht2; have HW2 := Lib.hid (((Only.refl (fun _ => False) w1).drew).trans hw2); have HS2 := Lib.hid (keep13 (HW2.out.block _ HZ.out id) (HW2.out.block _ HZ7.out id) HS1.out); clear ht2 hw2; dsimp only)
            | (go_at_call 32; refine (HC.out w2 B _ ver (trAt t.l k) cs2 (Nat.le_trans HB1.out HW2.out.size) (HFd.out.keep ((O1.out.trans HW2.out).kept0 (Nat.le_trans HB.out HW.out.size))) HT2.out HLF.out).mono ?_; rintro e3 w3 ⟨v3, rfl, ho3, hw3⟩; have HW3 := Lib.hid hw3; have HV3 := Lib.hid ho3.oc; have HO3 := Lib.hid (HO.out.keep (O1.out.trans (HW2.out.trans hw3))); have HB3 : Hid (w.heap.size + 1 ≤ w3.heap.size) := Lib.hid (Nat.le_trans HZ7.out (Nat.le_trans HW2.out.size hw3.size)); have HZ3 := Lib.hid (Nat.lt_of_lt_of_le HZ.out (Nat.le_trans HW2.out.size hw3.size)); have HZ37 := Lib.hid (Nat.lt_of_lt_of_le HZ7.out (Nat.le_trans HW2.out.size hw3.size)); have HS3 := Lib.hid (keep13 (hw3.block _ (Nat.lt_of_lt_of_le HZ.out HW2.out.size) id) (hw3.block _ (Nat.lt_of_lt_of_le HZ7.out HW2.out.size) id) HS2.out); clear ho3 hw3; dsimp only))
        have HR : Hid (Own 5 (w.heap.size + 1) w5 v5 (toB fs ver true t.l (k + 1)) ∧ Only (fun _ => False) w w5 ∧ TBox w.heap.size w5 (.int .i64 n) (.slice A1 n1 c1) (.bool nl) (.slice A2 n2 c2) (.slice A3 n3 c3)) := Lib.hid ⟨by rw [HSt.out, ← HX.out]; exact HO5.out,
          (HW.out.trans (O1.out.trans (HW2.out.trans HW3.out))).ownAt HW5.out (Nat.le_succ _), Nat.lt_of_lt_of_le HZ37.out HW5.out.size, by obtain ⟨_, _, _, _, _, _, _, _, h⟩ := HS4.out; exact h⟩
        clear HO5 HW5 HW2 HW3 HS1 HS2 HS3 HS4 HV3 HO3 HB3 HZ3 HZ37 HT2 HZ HZ7 HB1 cA HX HLF HLE O1 HW1 HO HW HBX HSt HFd HC HLe HOne HbB cH
        go_wp2_with fail
        go_roundw
        case rel => exact ⟨k + 1, hlt, by go_num, HR.out⟩
        case measure => simp [intOf]; omega
    · have hk2 : k = fs.length := by omega
      subst hk2
      have hlt' : ¬ ((fs.length : Int) < (fs.length : Int)) := by omega
      have cK := Lib.hid (sp_known wr B fs _ (Nat.le_trans HB.out HW.out.size) (HFs.out.keep (HW.out.kept0 HB.out)) HTG.out hlen)
      obtain ⟨us, hus⟩ : ∃ us, unkS 0 t.u = us := ⟨_, rfl⟩
      have HUS := Lib.hid hus
      have HV : Hid (unkV t.u = us.map takeV) := Lib.hid (by rw [← hus]; rfl)
      have hul : us.length ≤ 32767 := by have := unkV_len t.u; rw [HV.out] at this; simpa [most] using this
      clear hus hlt'
      go_wp2_with (go_at_call 34; refine cK.out.mono ?_; rintro e1 w1 ⟨rfl, hw1⟩; have HW1 := Lib.hid hw1; clear hw1 cK)
      go_loopw [10, 11, 52] (fun q m i wl => q = .slice none 0 0 ∧ m = .int .i64 0 ∧ i = .int .i64 0 ∧ wl = w1) (fun _ _ _ _ => 0)
      case atStart => exact ⟨rfl, rfl, rfl, rfl⟩
      case round =>
        obtain ⟨rfl, rfl, rfl, rfl⟩ := hrel
        have O01 := Lib.hid (HW.out.trans HW1.out)
        have HBX1 := Lib.hid (HBX.out.keep (b0 := w.heap.size + 1) HW1.out.lift (Nat.lt_succ_self _))
        have HO1 := Lib.hid (HO.out.keep HW1.out)
        have cU := Lib.hid (sp_unknown wr B fs _ (.slice A3 n3 c3) t.u (Nat.le_trans HB.out O01.out.size) (HFs.out.keep (O01.out.kept0 HB.out)) HTG.out hlen (trc_tgs (TrC.keep (O01.out.kept0 HB.out) HT.out)))
        have hlow : w.heap.size + 1 ≤ wr.heap.size := HBX1.out.1
        have y4 : wr.cell? ⟨w.heap.size, 4, none⟩ = some (.slice A3 n3 c3) := HBX1.out.2.2.2.2.2
        clear HBX HW HO HW1 HBX1
        go_wp2_with (go_at_call 37; refine cU.out.mono ?_; rintro e2 w2 ⟨vv, rfl, ht2, hw2⟩; rw [HUS.out] at ht2; obtain ⟨fU, hsU, _⟩ := id ht2; obtain ⟨AV, cV, rfl, hcV⟩ := hsU.sl; have HT2 := Lib.hid ht2; have HW2 := Lib.hid hw2; clear ht2 hw2 hsU cU)
        have O02 := Lib.hid (O01.out.trans HW2.out)
        have HO2 := Lib.hid (HO1.out.keep HW2.out)
        have hw12 : wr.heap.size ≤ w2.heap.size := HW2.out.size
        have HLB : Hid ((encTags (us.map takeV)).length + ((toB fs ver true t.l fs.length).length + (uvEnc us.length).length) + 16 ≤ lim2) := Lib.hid (by have h := HLT.out; rw [HV.out] at h; simp only [List.length_append, List.length_map] at h; omega)
        clear y4 O01 HO1 HW2
        go_loopw [10, 11, 102] (fun q m i wl => ∃ k : Nat, k ≤ us.length ∧ i = .int .i64 k ∧ m = .int .i64 k ∧ Own 5 w2.heap.size wl q (encTags ((us.map takeV).take k)) ∧ Only (fun _ => False) w2 wl) (fun _ _ i _ => us.length - (intOf i).toNat)
        case atStart => exact ⟨0, Nat.zero_le _, rfl, rfl, World.ownsRow_nil _ _ _ _, Only.refl _ _⟩
        case round =>
          obtain ⟨k, hk, rfl, rfl, hq, hwl⟩ := hrel
          have HQ := Lib.hid hq
          have HWL := Lib.hid hwl
          by_cases hlt : k < us.length
          · obtain ⟨b, o, A1, n1, c1, rfl, _, hbB, hk32, hocx, ck, cx⟩ := (TgsC.keepU HT2.out (hwl.kept0 (Nat.le_refl _))).at_ hlt
            have hstep := encT_step hlt
            have hle := encT_le us (k + 1)
            rw [hstep, List.length_append, List.length_append, List.length_append] at hle
            have HST := Lib.hid hstep
            have HLE := Lib.hid hle
            have HXO := Lib.hid hocx
            clear hocx hstep hle hq hwl
            generalize us[k] = uk at *
            obtain ⟨key, val⟩ := uk
            simp only at ck cx hk32 HXO HST HLE
            have cW := Lib.hid (fun obj => sp_whole (wr.alloc obj) w2.heap.size _ _ (HXO.out.keep (((Only.refl (fun _ => False) wr).alloc obj).kept0 HWL.out.size)))
            have hlt' : (k : Int) < (us.length : Int) := by omega
            have hm : (val.take most).length ≤ 32767 := by simp [most]; omega
            generalize hvt : val.take most = vt at *
            generalize htk : encTags ((us.map takeV).take k) = tk at *
            have hbw : b < wr.heap.size := by have := HWL.out.size; omega
            have hkey : key < 9223372036854775808 := by omega
            have hvl : vt.length < 9223372036854775808 := by omega
            have HL1 : Hid (tk.length + (uvEnc key).length ≤ lim2) := Lib.hid (by have h7 := HLB.out; have h8 := HLE.out; omega)
            have HL2 : Hid ((tk ++ uvEnc key).length + (uvEnc vt.length).length ≤ lim2) := Lib.hid (by have h7 := HLB.out; have h8 := HLE.out; rw [List.length_append]; omega)
            have HL3 : Hid ((tk ++ uvEnc key ++ uvEnc vt.length).length + vt.length ≤ lim2) := Lib.hid (by have h7 := HLB.out; have h8 := HLE.out; rw [List.length_append, List.length_append]; omega)
            have HKEY := Lib.hid hkey
            have HVL := Lib.hid hvl
            clear htk hvt hkey hvl
            go_wp2_with (first
              | (go_at_call 38; refine (cW.out _).mono ?_; rintro e3 w3 ⟨v3, rfl, ho3, rfl⟩; obtain ⟨A4, c4, rfl, _⟩ := ho3.sl; have HO3 := Lib.hid ho3; have O3 := Lib.hid (HWL.out.trans ((Only.refl (fun _ => False) wr).alloc (.cells #[.int .u32 key, .slice A1 n1 c1] 59))); have HQ3 := Lib.hid (HQ.out.keep ((Only.refl (fun _ => False) wr).alloc (.cells #[.int .u32 key, .slice A1 n1 c1] 59))); clear ho3 HWL HQ)
              | (at_builtin; refine wp_app_oc rfl (.tmp 109) (.tmp 113) 22 rfl Tryz.underlying22 hi hz0 hz1 hz2 rfl HQ4.out rfl HV4.out O4.out.size HL1.out ?_; intro v5 w5 ho5 hw5; have HQ5 := Lib.hid ho5; have O5 := Lib.hid (O4.out.own hw5 (Nat.le_refl _)); have HX5 := Lib.hid (HX4.out.keep (hw5.kept O4.out.size (fun j h1 h2 => Nat.lt_irrefl _ (Nat.lt_of_lt_of_le h1 h2)))); clear ho5 hw5 HQ4 HV4 O4 HX4)
              | (at_builtin; refine wp_app_oc rfl (.tmp 114) (.tmp 118) 22 rfl Tryz.underlying22 hi hz0 hz1 hz2 rfl HQ6.out rfl HV6.out O6.out.size HL2.out ?_; intro v7 w7 ho7 hw7; have HQ7 := Lib.hid ho7; have O7 := Lib.hid (O6.out.own hw7 (Nat.le_refl _)); have HX7 := Lib.hid (HX6.out.keep (hw7.kept O6.out.size (fun j h1 h2 => Nat.lt_irrefl _ (Nat.lt_of_lt_of_le h1 h2)))); clear ho7 hw7 HQ6 HV6 O6 HX6)
              | (at_builtin; refine wp_app_oc rfl (.tmp 119) (.tmp 120) 22 rfl Tryz.underlying22 hi hz0 hz1 hz2 rfl HQ7.out rfl HX7.out O7.out.size HL3.out ?_; intro v8 w8 ho8 hw8; have HQ8 := Lib.hid ho8; have O8 := Lib.hid (O7.out.own hw8 (Nat.le_refl _)); clear ho8 hw8 HQ7 HX7 O7)
              | (go_at_call 36; have hx := O3.out; clear hx; refine (sp_uvarint _ key HKEY.out).mono ?_; rintro e4 w4 ⟨v4, rfl, ho4, hw4⟩; have HV4 := Lib.hid ho4.oc; have O4 := Lib.hid (O3.out.trans hw4); have HQ4 := Lib.hid (HQ3.out.keep hw4); have HX4 := Lib.hid (HO3.out.keep (hw4.kept0 O3.out.size)); clear ho4 hw4 O3 HQ3 HO3)
              | (go_at_call 36; refine (sp_uvarint _ vt.length HVL.out).mono ?_; rintro e6 w6 ⟨v6, rfl, ho6, hw6⟩; have HV6 := Lib.hid ho6.oc; have O6 := Lib.hid (O5.out.trans hw6); have HQ6 := Lib.hid (HQ5.out.keep hw6); have HX6 := Lib.hid (HX5.out.keep (hw6.kept0 O5.out.size)); clear ho6 hw6 O5 HQ5 HX5))
            go_roundw
            case rel => exact ⟨k + 1, hlt, rfl, rfl, by rw [HST.out]; simpa [List.append_assoc] using HQ8.out, O8.out⟩
            case measure => exact msrI us.length k _ _ hlt rfl rfl
          · have hk2 : k = us.length := by omega
            subst hk2
            have hlt' : ¬ ((us.length : Int) < (us.length : Int)) := by omega
            have HQ' : Hid (Own 5 w2.heap.size wr _ (encTags (us.map takeV))) := Lib.hid (by have h := HQ.out; rwa [show (us.map takeV).take us.length = us.map takeV from List.take_of_length_le (by simp)] at h)
            have HO3 := Lib.hid (HO2.out.keep HWL.out)
            have O3 := Lib.hid (O02.out.trans HWL.out)
            have hoq : ∀ g, Value.ownBlock _ = some g → g < w2.heap.size := fun g h => (World.ownsRow.lt HO2.out g h).2
            have HOQ := Lib.hid hoq
            have hw2r := HWL.out.size
            have hwu : us.length < 9223372036854775808 := by omega
            have HWU := Lib.hid hwu
            have HL1 : Hid ((toB fs ver true t.l fs.length).length + (uvEnc us.length).length ≤ lim2) := Lib.hid (by have h7 := HLB.out; omega)
            have HL2 : Hid ((toB fs ver true t.l fs.length ++ uvEnc us.length).length + (encTags (us.map takeV)).length ≤ lim2) := Lib.hid (by have h7 := HLB.out; rw [List.length_append]; omega)
            have HS3 : Hid (w.heap.size + 1 ≤ wr.heap.size) := Lib.hid (by omega)
            clear hq hwl HQ hoq HWL HO2 O02 hwu
            go_wp2_with (first
              | (go_at_call 36; refine (sp_uvarint _ us.length HWU.out).mono ?_; rintro e4 w4 ⟨v4, rfl, ho4, hw4⟩; have HV4 := Lib.hid ho4.oc; have O4 := Lib.hid (O3.out.trans hw4); have HO4 := Lib.hid (HO3.out.keep hw4); have HQ4 := Lib.hid (HQ'.out.keep hw4); have HZ4 := Lib.hid hw4.size; clear ho4 hw4 O3 HO3 HQ')
              | (at_builtin; refine wp_app_ocg rfl (.tmp 125) (.tmp 128) 22 rfl Tryz.underlying22 hi hz0 hz1 hz2 rfl HO4.out rfl HV4.out (Nat.le_trans HS3.out HZ4.out) HL1.out ?_; intro v5 w5 ho5 hw5 hg5; have HO5 := Lib.hid ho5; have HQ5 := Lib.hid (own_blocks HQ4.out fun g hg => hg5.block g (World.ownsRow.lt HQ4.out g hg).2 (fun e => Nat.lt_irrefl _ (Nat.lt_of_lt_of_le (HOQ.out g e.symm) (World.ownsRow.lt HQ4.out g hg).1))).oc; have HZ5 := Lib.hid hw5.size; have HW5 := Lib.hid hw5; clear ho5 hw5 hg5 HO4 HQ4 HV4)
              | (at_builtin; refine wp_app_oc rfl (.tmp 129) (.tmp 130) 22 rfl Tryz.underlying22 hi hz0 hz1 hz2 rfl HO5.out rfl HQ5.out (Nat.le_trans (Nat.le_trans HS3.out HZ4.out) HZ5.out) HL2.out ?_; intro v6 w6 ho6 hw6; have HO6 := Lib.hid ho6; have HW6 := Lib.hid (O4.out.own (HW5.out.trans hw6) (Nat.le_succ _)); clear ho6 hw6 HO5 HQ5))
            go_ret
            exact ⟨_, rfl, by rw [HV.out, List.length_map, ← List.append_assoc]; exact HO6.out.lower (Nat.le_succ _), HW6.out⟩

theorem part_one (flex : Bool) (fs : List Fld) (hlen : fs.length ≤ 65536) (htag : ∀ f ∈ fs, f.tag < 0) (hF : ∀ f ∈ fs, FieldC flex f) : PartC flex fs := by
  cases flex
  · exact part_plain fs hlen htag hF
  · exact part_flex fs hlen htag hF
mutual
theorem field_any (flex : Bool) : ∀ f : Fld, Fld.good f = true → Fld.lens f = true → FieldC flex f
  | .mk kind fr to nu tag df of sub, h, hl => by
    simp only [Fld.good, Bool.and_eq_true, decide_eq_true_eq] at h
    simp only [Fld.lens, Bool.and_eq_true, decide_eq_true_eq] at hl
    refine sp_field flex _ ?_
    intro _
    exact part_one flex sub hl.1 (fun f hf => by
      have := fldsGood_mem h.2 f hf
      cases f
      simp only [Fld.good, Bool.and_eq_true, decide_eq_true_eq] at this
      exact this.1) (fields_any flex sub h.2 hl.2)
theorem fields_any (flex : Bool) : ∀ fs : List Fld, fldsGood fs = true → fldsLens fs = true → ∀ f ∈ fs, FieldC flex f
  | [], _, _ => fun f hf => by cases hf
  | g :: fs, h, hl => fun f hf => by
    simp only [fldsGood, Bool.and_eq_true] at h
    simp only [fldsLens, Bool.and_eq_true] at hl
    rcases List.mem_cons.1 hf with e | hf
    · rw [e]; exact field_any flex g h.1 hl.1
    · exact fields_any flex fs h.2 hl.2 f hf
end
theorem part_any (flex : Bool) (fs : List Fld) (h : fldsGood fs = true) (hl : fldsLens fs = true) (hn : fs.length ≤ 65536) : PartC flex fs :=
  part_one flex fs hn (fun f hf => by
    have := fldsGood_mem h f hf
    cases f
    simp only [Fld.good, Bool.and_eq_true, decide_eq_true_eq] at this
    exact this.1) (fields_any flex fs h hl)
end Go.Proofs.YtpefipjgcpchaaaGreatDoorR.Kf
