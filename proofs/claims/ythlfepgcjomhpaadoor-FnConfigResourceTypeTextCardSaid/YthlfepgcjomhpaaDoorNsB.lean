/- How a text is made plain: the package's functions and the reference's, walked. -/
import Derived.Test.YthlfepgcjomhpaaDoorNsA
import Derived.Test.YthlfepgcjomhpaaDoorKbG
import Derived.Test.YthlfepgcjomhpaaDoorShelf
import Derived.WalkMore
import Derived.WalkSmall
import Derived.LoopTactic
import Derived.Handy
import Derived.Laws.BitsLemmas
import Derived.Lib.Hide
namespace Go.Proofs.YthlfepgcjomhpaaDoor.Kf
set_option linter.unusedVariables false
set_option linter.unusedSimpArgs false
open Go Go.RowKit

theorem info_u8m : (Tryd.prog.info? 5).map (fun i => (i.zero, i.size, i.bytes)) = some (some (.int .u8 0), 1, 1) := by kernel_rfl
theorem info_u8 : ∃ i, Tryd.prog.info? 5 = some i ∧ i.zero = some (.int .u8 0) ∧ i.size = 1 ∧ i.bytes = 1 := by
  have h := info_u8m
  cases e : Tryd.prog.info? 5 with
  | none => rw [e] at h; cases h
  | some i =>
    rw [e] at h
    simp only [Option.map_some, Option.some.injEq, Prod.mk.injEq] at h
    exact ⟨i, rfl, h.1, h.2.1, h.2.2⟩
theorem ext_one {l : List UInt8} {k : Nat} {b : UInt8} (h : l[k]? = some b) : (⟨l.toArray⟩ : ByteArray).extract k (k + 1) = ⟨#[b]⟩ := by
  apply ByteArray.ext
  rw [ByteArray.data_extract]
  apply Array.ext'
  have hk : k < l.length := (List.getElem?_eq_some_iff.1 h).1
  have e : l[k] = b := (List.getElem?_eq_some_iff.1 h).2
  simp [Array.toList_extract]
  apply List.ext_getElem?
  intro j
  rw [List.getElem?_take, List.getElem?_drop]
  cases j with
  | zero => simp [h]
  | succ j => rw [if_neg (by omega)]; simp

theorem ext_take (l : List UInt8) (k : Nat) : (⟨l.toArray⟩ : ByteArray).extract 0 k = ⟨(l.take k).toArray⟩ := by
  apply ByteArray.ext
  rw [ByteArray.data_extract]
  apply Array.ext'
  simp [Array.toList_extract]
theorem ext_drop (l : List UInt8) (k : Nat) : (⟨l.toArray⟩ : ByteArray).extract k l.length = ⟨(l.drop k).toArray⟩ := by
  apply ByteArray.ext
  rw [ByteArray.data_extract]
  apply Array.ext'
  simp [Array.toList_extract]
  exact List.take_of_length_le (by simp)

set_option maxRecDepth 100000 in
theorem zz_index (w : World) (l : List UInt8) (c : UInt8) (hl : l.length ≤ 4294967296) :
    Calls Tryd.prog 30 #[.string ⟨l.toArray⟩, .string ⟨#[c]⟩] w fun e w' => e = .returned (.int .i64 (ixB c l)) ∧ w' = w := by
  have hsz : (⟨l.toArray⟩ : ByteArray).size = l.length := rfl
  have hsc : (⟨#[c]⟩ : ByteArray).size = 1 := rfl
  go_enter Tryd.func30, Tryd.ntmps30
  go_wp2
  go_loopw [5] (fun i wr => ∃ k : Nat, k ≤ l.length ∧ i = .int .i64 k ∧ wr = w ∧ ∀ (j : Nat) b, j < k → l[j]? = some b → b ≠ c)
    (fun i _ => l.length - (intOf i).toNat)
  case atStart => exact ⟨0, Nat.zero_le _, rfl, rfl, fun j b hj => absurd hj (by omega)⟩
  case round =>
    obtain ⟨k, hk, rfl, rfl, hno⟩ := hrel
    have HN := Lib.hid hno
    clear hno
    have HS := Lib.hid hsz
    have e1 : wrap64 ((k : Int) + 1) = (k : Int) + 1 := by unfold wrap64; omega
    by_cases hlt : k < l.length
    · obtain ⟨b, hb⟩ : ∃ b, l[k]? = some b := ⟨l[k], List.getElem?_eq_getElem hlt⟩
      have hx := ext_one hb
      go_wp2
      · have hbc : b = c := by simpa using (show (b == c) = true by assumption)
        subst hbc
        go_ret
        exact ⟨by rw [ixB_at HN.out hb]; rfl, rfl⟩
      · have hbc : b ≠ c := by simpa using (show (b == c) = false by assumption)
        refine ⟨⟨k + 1, by omega, rfl, trivial, ?_⟩, by simp [intOf]; omega⟩
        intro j b' hj hb'
        by_cases hjk : j < k
        · exact HN.out j b' hjk hb'
        · have : j = k := by omega
          subst this
          rw [hb] at hb'
          cases hb'
          exact hbc
    · have hke : k = l.length := by omega
      subst hke
      go_wp2
      go_ret
      exact ⟨by rw [ixB_none fun j b hb => HN.out j b (List.getElem?_eq_some_iff.1 hb).1 hb]; rfl, rfl⟩

/-- Octets as a text. -/
theorem conv_oc {P : Program} {w : World} {B : Nat} {v : Value} {s : List UInt8} (h : Oc w B v s) {src e dst : TypeId} (hs : P.underlying src = some (.slice e)) (he : P.underlying e = some (.int .u8)) (hd : P.underlying dst = some .string) :
    (convert src dst v).run P w = .ok (.string ⟨s.toArray⟩) w := by
  rcases h with ⟨rfl, rfl⟩ | ⟨a, c, rfl, _, hc⟩
  · exact run_convert_bytes_nil w src e hs he 0 0 dst hd
  · exact run_convert_bytes_back w src dst e a c s hs he hd fun j hj => (hc j s[j] (by simp)).2
theorem conv_at {w : World} {B : Nat} {v : Value} {s : List UInt8} (h : Oc w B v s) : (convert 26 9 v).run Tryd.prog w = .ok (.string ⟨s.toArray⟩) w := conv_oc h Tryd.underlying26 Tryd.underlying5 Tryd.underlying9

set_option maxRecDepth 100000 in
theorem zz_replace (w : World) (l : List UInt8) (c : UInt8) (hl : l.length ≤ 4294967296) :
    Calls Tryd.prog 27 #[.string ⟨l.toArray⟩, .string ⟨#[c]⟩, .string ⟨#[]⟩] w fun e w' => e = .returned (.string ⟨(rmB c l).toArray⟩) ∧ Only (fun _ => False) w w' := by
  obtain ⟨i0, hi, hz0, hz1, hz2⟩ := info_u8
  have hsc : (⟨#[c]⟩ : ByteArray).size = 1 := rfl
  go_enter Tryd.func27, Tryd.ntmps27
  go_wp2
  go_loopw [0, 7, 10] (fun s v i wr => ∃ r ds : List UInt8, s = .string ⟨r.toArray⟩ ∧ Own 5 w.heap.size wr v ds ∧ ds ++ rmB c r = rmB c l ∧ ds.length + r.length ≤ l.length ∧ Only (fun _ => False) w wr)
    (fun s _ _ _ => (match s with | .string b => b.size | _ => 0))
  case atStart => exact ⟨l, [], rfl, World.ownsRow_nil _ _ _ _, rfl, by simp, Only.refl _ _⟩
  case round =>
    obtain ⟨r, ds, rfl, hown, heq, hlen, honly⟩ := hrel
    have HO := Lib.hid hown
    have HW := Lib.hid honly
    have HE := Lib.hid heq
    have cI := Lib.hid (zz_index wr r c (by omega))
    clear hown honly heq
    by_cases hneg : ixB c r < 0
    · have hr : rmB c r = r := rm_none hneg
      go_wp2_with (first
        | (go_at_call 30; refine cI.out.mono ?_; rintro e w1 ⟨rfl, hw1⟩; subst hw1)
        | (at_builtin; refine wp_app_str rfl _ _ 26 9 rfl Tryd.underlying26 Tryd.underlying9 hi hz0 hz1 hz2 rfl HO.out rfl HW.out.size (by unfold lim2; omega) ?_; intro v' w1 ho1 hw1; have HO1 := Lib.hid ho1; have HW1 := Lib.hid hw1; clear ho1 hw1)
        | (rw [conv_at HO1.out.oc]; simp only [Result.andThen]; rw [Oper.upon_value])
        | fail)
      go_ret
      exact ⟨by show Ending.returned (Value.string _) = _; rw [← HE.out, hr], HW.out.own HW1.out (Nat.le_refl _)⟩
    · obtain ⟨k, hk⟩ : ∃ k : Nat, ixB c r = k := ⟨(ixB c r).toNat, by omega⟩
      rw [hk] at cI
      obtain ⟨hk1, hk2⟩ := rm_step hk
      have HK := Lib.hid hk2
      have hsz : (⟨r.toArray⟩ : ByteArray).size = r.length := rfl
      have x1 : (⟨r.toArray⟩ : ByteArray).extract 0 k = ⟨(r.take k).toArray⟩ := ext_take r k
      have x2 : (⟨r.toArray⟩ : ByteArray).extract (k + 1) r.length = ⟨(r.drop (k + 1)).toArray⟩ := ext_drop r (k + 1)
      have e1 : wrap64 ((k : Int) + 1) = (k : Int) + 1 := by unfold wrap64; omega
      have h0 : ¬ ((k : Int) < 0) := by omega
      clear hk hk2 hneg
      go_wp2_with (first
        | (go_at_call 30; refine cI.out.mono ?_; rintro e w1 ⟨rfl, hw1⟩; subst hw1; clear cI)
        | (at_builtin; refine wp_app_str rfl _ _ 26 9 rfl Tryd.underlying26 Tryd.underlying9 hi hz0 hz1 hz2 rfl HO.out (s := r.take k) (by first | rfl | (rw [← x1]; rfl)) HW.out.size (by unfold lim2; simp; omega) ?_; intro v' w1 ho1 hw1; have HO1 := Lib.hid ho1; have HW1 := Lib.hid (HW.out.own hw1 (Nat.le_refl _)); clear ho1 hw1 HO)
        | (at_builtin; refine wp_app_str rfl _ _ 26 9 rfl Tryd.underlying26 Tryd.underlying9 hi hz0 hz1 hz2 rfl HO1.out (s := []) rfl HW1.out.size (by unfold lim2; simp; omega) ?_; intro v2 w2 ho2 hw2; have HO2 := Lib.hid ho2; have HW2 := Lib.hid (HW1.out.own hw2 (Nat.le_refl _)); clear ho2 hw2 HO1)
        | fail)
      refine ⟨⟨r.drop (k + 1), ds ++ r.take k ++ [], rfl, HO2.out, ?_, by simp; omega, HW2.out⟩, by simp [ByteArray.size]; omega⟩
      rw [← HE.out, HK.out]
      simp

abbrev Asc (w : World) : Prop := Lib.TabIs Tryd.prog w "strings.asciiSpace" .u8 Lib.asciiSpaceTab
set_option maxRecDepth 100000 in
theorem gSp_at : Tryd.prog.globalNamed "strings.asciiSpace" = some 0 := by kernel_rfl
theorem Only.belowF {w w' : World} (h : Only (fun _ => False) w w') : Below w.heap.size w w' := ⟨h.os, h.tape, h.output, h.size, fun k hk => h.block k hk fun x => x⟩
theorem Asc.keep {w w' : World} (h : Asc w) (ho : Only (fun _ => False) w w') : Asc w' := by
  have h' : w.var? Tryd.prog "strings.asciiSpace" = some _ := h
  refine var?_below ho.belowF gSp_at ?_ h'
  have h0 := h.cell gSp_at 0 (by rw [Lib.asciiSpaceTab_length]; decide)
  exact block_lt_of_cell h0

theorem bw_below (w : World) (e : TypeId) (s : ByteArray) : Below w.heap.size w (Lib.bytesWorld w e s) := ⟨rfl, rfl, rfl, by rw [Lib.bytesWorld_size]; omega, fun k hk => Lib.bytesWorld_at_old w e s k hk⟩
/-- All octets are below 128. -/
def Plain7 (l : List UInt8) : Prop := ∀ b ∈ l, b.toNat < 128
theorem Plain7.at {l : List UInt8} (h : Plain7 l) (j : Nat) (b : UInt8) (hb : l[j]? = some b) : b.toNat < 128 := h b (List.mem_of_getElem? hb)
set_option maxRecDepth 100000 in
theorem strnorm_c (w : World) (l : List UInt8) (hl : l.length ≤ 4294967296) (ha : Plain7 l) (ht : Asc w) :
    Calls Tryd.prog 25 #[.string ⟨l.toArray⟩] w fun e w' => e = .returned (.string ⟨(normL l).toArray⟩) ∧ Only (fun _ => False) w w' := by
  rw [← strnorm_eq]
  have l1 : (rmB 46 l).length ≤ 4294967296 := Nat.le_trans (rmB_len _ _) hl
  have l2 : (rmB 95 (rmB 46 l)).length ≤ 4294967296 := Nat.le_trans (rmB_len _ _) l1
  have l3 : (rmB 45 (rmB 95 (rmB 46 l))).length ≤ 4294967296 := Nat.le_trans (rmB_len _ _) l2
  have l4 : (Lib.trimSpace (rmB 45 (rmB 95 (rmB 46 l)))).length ≤ 4294967296 := Nat.le_trans (trim_len _) l3
  have a3 : Plain7 (rmB 45 (rmB 95 (rmB 46 l))) := fun b hb => ha b (rmB_sub (rmB_sub (rmB_sub hb)))
  have a4 : Plain7 (Lib.trimSpace (rmB 45 (rmB 95 (rmB 46 l)))) := fun b hb => a3 b (trim_sub hb)
  have c1 := Lib.hid (fun (w1 : World) => zz_replace w1 l 46 hl)
  have c2 := Lib.hid (fun (w1 : World) => zz_replace w1 _ 95 l1)
  have c3 := Lib.hid (fun (w1 : World) => zz_replace w1 _ 45 l2)
  have c4 := Lib.hid (fun (w1 : World) (h : Asc w1) => Tryd.strings_TrimSpace ⟨(rmB 45 (rmB 95 (rmB 46 l))).toArray⟩ w1 (by show (rmB 45 (rmB 95 (rmB 46 l))).length ≤ _; omega) (fun j b hb => a3.at j b (by simpa using hb)) h)
  have c5 := Lib.hid (fun (w1 : World) => Tryd.strings_ToLower_ascii ⟨(Lib.trimSpace (rmB 45 (rmB 95 (rmB 46 l)))).toArray⟩ w1 (by show (Lib.trimSpace (rmB 45 (rmB 95 (rmB 46 l)))).length ≤ _; omega) (fun j b hb => a4.at j b (by simpa using hb)))
  have HT := Lib.hid ht
  have O0 := Lib.hid (Only.refl (fun _ => False) w)
  unfold strnormL
  clear l1 l2 l3 l4 a3 a4 ht ha
  simp only [] at c4 c5
  generalize hm3 : rmB 45 (rmB 95 (rmB 46 l)) = m3 at *
  generalize hm2 : rmB 95 (rmB 46 l) = m2 at *
  generalize hm1 : rmB 46 l = m1 at *
  generalize hm4 : Lib.trimSpace m3 = m4 at *
  generalize hm5 : Lib.toLowerA m4 = m5 at *
  clear hm1 hm2 hm3 hm4 hm5
  go_enter Tryd.func25, Tryd.ntmps25
  go_wp2_with (first
    | (go_at_call 27; have hx := O0.out; refine (c1.out _).mono ?_; rintro e1 w1 ⟨rfl, h1⟩; have O1 := Lib.hid (hx.trans h1); clear h1 hx O0 c1)
    | (go_at_call 27; have hx := O1.out; refine (c2.out _).mono ?_; rintro e2 w2 ⟨rfl, h2⟩; have O2 := Lib.hid (hx.trans h2); clear h2 hx O1 c2)
    | (go_at_call 27; have hx := O2.out; refine (c3.out _).mono ?_; rintro e3 w3 ⟨rfl, h3⟩; have O3 := Lib.hid (hx.trans h3); clear h3 hx O2 c3)
    | (go_at_call 28; (refine (c4.out _ (HT.out.keep O3.out)).mono ?_; rintro e4 w4 ⟨rfl, h4⟩; have O4 := Lib.hid (O3.out.of_below (w'' := w4) (by rw [h4]; exact bw_below _ _ _)); clear h4 O3 c4))
    | (go_at_call 29; refine (c5.out _).mono ?_; rintro e5 w5 ⟨rfl, h5⟩; have O5 := Lib.hid (O4.out.of_below h5); clear h5 O4 c5)
    | fail)
  go_ret
  exact ⟨rfl, O5.out⟩

/-! ### the package's readings -/
set_option maxRecDepth 100000 in
/-- errors.New gives an error that is not nil. -/
theorem err_new (w : World) (s : ByteArray) : Calls Tryd.prog 26 #[.string s] w fun e w' => (∃ t v, e = .returned (.iface t v)) ∧ Only (fun _ => False) w w' := by
  go_enter Tryd.func26, Tryd.ntmps26
  go_wp2
  go_ret
  exact ⟨⟨_, _, rfl⟩, (Only.refl _ _).alloc _⟩

/-- The first word that the text is. -/
def lk : List (Int × List UInt8) → List UInt8 → Int × Bool
  | [], _ => (0, false)
  | x :: l, m => if x.2 = m then (x.1, true) else lk l m
theorem parsed_lk : ∀ (l : List (Int × List UInt8)) (s : List UInt8), parsedL l s = lk (l.map fun x => (x.1, normL x.2)) (normL s)
  | [], _ => rfl
  | x :: l, s => by
    simp only [parsedL, List.map_cons, lk, parsed_lk l s]
/-- What the package's reading of a word gives: the value and nil, or an error. -/
def RdW (low : List (Int × List UInt8)) (m : List UInt8) (w : World) (e : Ending) (w' : World) : Prop :=
  ∃ ev, e = .returned (.tuple #[.int .i8 (lk low m).1, ev]) ∧ ((lk low m).2 = true → ev = .nilIface) ∧ ((lk low m).2 = false → ∃ t v, ev = .iface t v) ∧ Only (fun _ => False) w w'

/-! ### the reference's road -/
set_option maxRecDepth 100000 in
theorem lower_nat (b : UInt8) : ((Lib.lowerB b).toNat : Int) = if (65 : Int) ≤ b.toNat ∧ (b.toNat : Int) ≤ 90 then (b.toNat : Int) + 32 else b.toNat := by
  have := all8 (p := fun b => decide (((Lib.lowerB b).toNat : Int) = if (65 : Int) ≤ b.toNat ∧ (b.toNat : Int) ≤ 90 then (b.toNat : Int) + 32 else b.toNat)) (by decide) b
  simpa using this
set_option maxRecDepth 100000 in
theorem keep_nat (b : UInt8) : keepB b = (((b.toNat : Int) != 46) && ((b.toNat : Int) != 95) && ((b.toNat : Int) != 45)) := by
  have := all8 (p := fun b => decide (keepB b = (((b.toNat : Int) != 46) && ((b.toNat : Int) != 95) && ((b.toNat : Int) != 45)))) (by decide) b
  simpa using this
set_option maxRecDepth 100000 in
theorem sp_nat (b : UInt8) : Lib.isSp b = (decide ((b.toNat : Int) = 32) || (decide ((9 : Int) ≤ b.toNat) && decide ((b.toNat : Int) ≤ 13))) := by
  have := all8 (p := fun b => decide (Lib.isSp b = (decide ((b.toNat : Int) = 32) || (decide ((9 : Int) ≤ b.toNat) && decide ((b.toNat : Int) ≤ 13))))) (by decide) b
  simpa using this
theorem blank_c (w : World) (b : UInt8) : Calls Tryd.prog 24 #[u8v b] w fun e w' => e = .returned (.bool (Lib.isSp b)) ∧ w' = w := by
  rw [sp_nat]
  unfold u8v
  generalize (b.toNat : Int) = n
  go_enter Tryd.func24, Tryd.ntmps24
  go_wp2
  all_goals
    go_ret
    refine ⟨?_, rfl⟩
    show Ending.returned (Value.bool _) = _
    first
      | (simp_all; done)
      | (simp_all; rename_i h9; have h8 : ¬ 9 ≤ n := by omega
         simp [h8]; omega)

def lenOf : Value → Nat | .slice _ n _ => n | _ => 0
/-- A window of octets. -/
def Wn (w : World) (v : Value) (s : List UInt8) : Prop :=
  (v = .slice none 0 0 ∧ s = []) ∨ ∃ D o c, v = .slice (some ⟨D, o, none⟩) s.length c ∧ s.length ≤ c ∧ ∀ j b, s[j]? = some b → w.cell? ⟨D, o + j, none⟩ = some (u8v b)
theorem Wn.of_own {U base : Nat} {w : World} {v : Value} {s : List UInt8} (h : Own U base w v s) : Wn w v s := by
  rcases h.oc with h1 | ⟨a, c, h1, h2, h3⟩
  · exact .inl h1
  · have hc : ∀ g, v.ownBlock = some g → ∀ j u, (s.map u8v)[j]? = some u → w.cell? ((⟨g, 0, none⟩ : Addr).add j) = some u := fun g hg => World.ownsRow.cells h hg
    rcases h.2 with ⟨rfl, h0⟩ | ⟨g, cap, cur, rfl, _, hg, hn, _⟩
    · exact .inl ⟨rfl, List.eq_nil_of_length_eq_zero h0⟩
    · refine .inr ⟨g, 0, cap, rfl, hn, fun j b hb => ?_⟩
      have := hc g rfl j (u8v b) (by simp [hb])
      have e1 : (⟨g, 0, none⟩ : Addr).add j = ⟨g, 0 + j, none⟩ := by simp [Addr.add]; intro h; exact h.symm
      rw [e1] at this
      exact this
theorem Wn.conv {P : Program} {w : World} {v : Value} {s : List UInt8} (h : Wn w v s) {src e dst : TypeId} (hs : P.underlying src = some (.slice e)) (he : P.underlying e = some (.int .u8)) (hd : P.underlying dst = some .string) :
    (convert src dst v).run P w = .ok (.string ⟨s.toArray⟩) w := by
  rcases h with ⟨rfl, rfl⟩ | ⟨D, o, c, rfl, _, hc⟩
  · exact run_convert_bytes_nil w src e hs he 0 0 dst hd
  · refine run_convert_bytes_back w src dst e ⟨D, o, none⟩ c s hs he hd fun j hj => ?_
    have e1 : (⟨D, o, none⟩ : Addr).add j = ⟨D, o + j, none⟩ := by simp [Addr.add]
    rw [e1]
    exact hc j s[j] (by simp)
theorem Wn.len {w : World} {v : Value} {s : List UInt8} (h : Wn w v s) : ∃ A c, v = .slice A s.length c ∧ s.length ≤ c := by
  rcases h with ⟨rfl, rfl⟩ | ⟨D, o, c, rfl, h, _⟩
  · exact ⟨none, 0, rfl, Nat.le_refl _⟩
  · exact ⟨_, c, rfl, h⟩
theorem Wn.ne {w : World} {v : Value} {s : List UInt8} (h : Wn w v s) (h0 : s ≠ []) : ∃ D o c, v = .slice (some ⟨D, o, none⟩) s.length c ∧ s.length ≤ c ∧ ∀ j b, s[j]? = some b → w.cell? ⟨D, o + j, none⟩ = some (u8v b) := by
  rcases h with ⟨_, h⟩ | h
  · exact absurd h h0
  · exact h

set_option maxRecDepth 100000 in
set_option maxHeartbeats 4000000 in
theorem normal_c (w : World) (l : List UInt8) (hl : l.length ≤ 4294967296) :
    Calls Tryd.prog 16 #[.string ⟨l.toArray⟩] w fun e w' => e = .returned (.string ⟨(normL l).toArray⟩) ∧ Only (fun _ => False) w w' := by
  obtain ⟨i0, hi, hz0, hz1, hz2⟩ := info_u8
  have hsz : (⟨l.toArray⟩ : ByteArray).size = l.length := rfl
  obtain ⟨ds0, hds0⟩ : ∃ ds0, (l.map Lib.lowerB).filter keepB = ds0 := ⟨_, rfl⟩
  unfold normL
  rw [hds0]
  unfold Lib.trimSpace
  obtain ⟨r1, hr1⟩ : ∃ r1, ds0.dropWhile Lib.isSp = r1 := ⟨_, rfl⟩
  rw [hr1]
  have HR1 := Lib.hid hr1
  clear hr1
  obtain ⟨r2, hr2⟩ : ∃ r2, (r1.reverse.dropWhile Lib.isSp).reverse = r2 := ⟨_, rfl⟩
  rw [hr2]
  have HR2 := Lib.hid hr2
  clear hr2
  have HD0 := Lib.hid hds0
  clear hds0
  go_enter Tryd.func16, Tryd.ntmps16
  go_wp2
  go_loopw [3, 4, 5] (fun v i _ wr => ∃ (k : Nat) (ds : List UInt8), k ≤ l.length ∧ i = .int .i64 k ∧ ds = ((l.take k).map Lib.lowerB).filter keepB ∧ ds.length ≤ l.length ∧ Own 5 w.heap.size wr v ds ∧ Only (fun _ => False) w wr)
    (fun _ i _ _ => l.length - (intOf i).toNat)
  case atStart => exact ⟨0, [], Nat.zero_le _, rfl, rfl, Nat.zero_le _, World.ownsRow_nil _ _ _ _, Only.refl _ _⟩
  case round =>
    obtain ⟨k, ds, hk, rfl, hds, hdl, hown, honly⟩ := hrel
    have HO := Lib.hid hown
    have HW := Lib.hid honly
    have HDS := Lib.hid hds
    clear hown honly hds
    have HS := Lib.hid hsz
    have e1 : wrap64 ((k : Int) + 1) = (k : Int) + 1 := by unfold wrap64; omega
    by_cases hlt : k < l.length
    · obtain ⟨b, hb⟩ : ∃ b, l[k]? = some b := ⟨l[k], List.getElem?_eq_getElem hlt⟩
      have hx : (⟨l.toArray⟩ : ByteArray)[k] = b := by
        show l.toArray[k] = b
        simpa using (List.getElem?_eq_some_iff.1 hb).2
      have hlow := lower_nat b
      have hkeep := keep_nat (Lib.lowerB b)
      have hn1 : (b.toNat : Int) < 256 := by have := b.toNat_lt; omega
      have htk : ((l.take (k + 1)).map Lib.lowerB).filter keepB = ds ++ [Lib.lowerB b].filter keepB := by
        rw [List.take_add_one, hb, HDS.out]; simp
      have htl : (((l.take (k + 1)).map Lib.lowerB).filter keepB).length ≤ l.length := Nat.le_trans (List.length_filter_le _ _) (by simp; omega)
      rw [htk] at htl
      have HTK := Lib.hid htk
      have HTL := Lib.hid htl
      clear hb htk htl
      obtain ⟨ln, hln⟩ : ∃ ln : Int, ((Lib.lowerB b).toNat : Int) = ln := ⟨_, rfl⟩
      obtain ⟨n, hn⟩ : ∃ n : Int, (b.toNat : Int) = n := ⟨_, rfl⟩
      have hn0 : 0 ≤ n := by omega
      rw [hln] at hlow hkeep
      rw [hn] at hlow hn1
      have key : (65 ≤ n ∧ n ≤ 90) ∨ n = 46 ∨ n = 45 ∨ n = 95 ∨ (n < 65 ∧ n ≠ 46 ∧ n ≠ 45) ∨ (90 < n ∧ n ≠ 95) := by omega
      rcases key with ⟨k1, k2⟩ | k1 | k1 | k1 | ⟨k1, k2, k3⟩ | ⟨k1, k2⟩
      · have el : ln = n + 32 := by rw [hlow]; exact if_pos ⟨k1, k2⟩
        have ek : keepB (Lib.lowerB b) = true := by rw [hkeep, el]; simp; omega
        have HK : Hid (#[Value.int .u8 (n + 32)] = ([Lib.lowerB b].map u8v).toArray ∧ [Lib.lowerB b].filter keepB = [Lib.lowerB b]) := Lib.hid ⟨by simp [u8v, hln, el], by simp [ek]⟩
        have f0 : (n + 32 != 46) = true := by simp; omega
        have g0 : ¬ n + 32 = 46 := by omega
        have f1 : (n + 32 != 95) = true := by simp; omega
        have g1 : ¬ n + 32 = 95 := by omega
        have f2 : (n + 32 != 45) = true := by simp; omega
        have g2 : ¬ n + 32 = 45 := by omega
        clear el ek hlow hkeep hln
        go_wp2_with (at_builtin; refine wp_app_new rfl _ _ 26 rfl Tryd.underlying26 hi hz0 hz1 hz2 rfl HO.out (bs := [Lib.lowerB b]) rfl rfl ?_ HW.out.size ?_ ?_)
        · first | exact HK.out.1 | (have := HK.out.1; simpa using this)
        · unfold lim2; first | omega | (simp only [List.length_singleton]; omega)
        · intro v' w1 ho1 hw1
          have HO1 := Lib.hid ho1; have HW1 := Lib.hid (HW.out.own hw1 (Nat.le_refl _)); clear ho1 hw1 HO
          go_wp2
          go_roundw
          case rel => exact ⟨k + 1, ds ++ [Lib.lowerB b], by omega, by congr 1, by rw [HTK.out, HK.out.2], by have := HTL.out; rwa [HK.out.2] at this, HO1.out, HW1.out⟩
          case measure => simp [intOf]; omega
      · have el : ln = 46 := by rw [hlow, k1]; rfl
        have ek : keepB (Lib.lowerB b) = false := by rw [hkeep, el]; rfl
        have HK : Hid ([Lib.lowerB b].filter keepB = []) := Lib.hid (by simp [ek])
        subst k1
        clear el ek hlow hkeep hln
        go_wp2
        refine ⟨⟨k + 1, ds, by omega, by congr 1, by rw [HTK.out, HK.out, List.append_nil], hdl, HO.out, HW.out⟩, by simp [intOf]; omega⟩
      · have el : ln = 45 := by rw [hlow, k1]; rfl
        have ek : keepB (Lib.lowerB b) = false := by rw [hkeep, el]; rfl
        have HK : Hid ([Lib.lowerB b].filter keepB = []) := Lib.hid (by simp [ek])
        subst k1
        clear el ek hlow hkeep hln
        go_wp2
        refine ⟨⟨k + 1, ds, by omega, by congr 1, by rw [HTK.out, HK.out, List.append_nil], hdl, HO.out, HW.out⟩, by simp [intOf]; omega⟩
      · have el : ln = 95 := by rw [hlow, k1]; rfl
        have ek : keepB (Lib.lowerB b) = false := by rw [hkeep, el]; rfl
        have HK : Hid ([Lib.lowerB b].filter keepB = []) := Lib.hid (by simp [ek])
        subst k1
        clear el ek hlow hkeep hln
        go_wp2
        refine ⟨⟨k + 1, ds, by omega, by congr 1, by rw [HTK.out, HK.out, List.append_nil], hdl, HO.out, HW.out⟩, by simp [intOf]; omega⟩
      · have el : ln = n := by rw [hlow]; exact if_neg (by omega)
        have ek : keepB (Lib.lowerB b) = true := by rw [hkeep, el]; simp; omega
        have HK : Hid (#[Value.int .u8 (n)] = ([Lib.lowerB b].map u8v).toArray ∧ [Lib.lowerB b].filter keepB = [Lib.lowerB b]) := Lib.hid ⟨by simp [u8v, hln, el], by simp [ek]⟩
        have f0 : (n != 46) = true := by simp; omega
        have g0 : ¬ n = 46 := by omega
        have f1 : (n != 95) = true := by simp; omega
        have g1 : ¬ n = 95 := by omega
        have f2 : (n != 45) = true := by simp; omega
        have g2 : ¬ n = 45 := by omega
        have u1 : ¬ (65 ≤ n) := by omega
        clear el ek hlow hkeep hln
        go_wp2_with (at_builtin; refine wp_app_new rfl _ _ 26 rfl Tryd.underlying26 hi hz0 hz1 hz2 rfl HO.out (bs := [Lib.lowerB b]) rfl rfl ?_ HW.out.size ?_ ?_)
        · first | exact HK.out.1 | (have := HK.out.1; simpa using this)
        · unfold lim2; first | omega | (simp only [List.length_singleton]; omega)
        · intro v' w1 ho1 hw1
          have HO1 := Lib.hid ho1; have HW1 := Lib.hid (HW.out.own hw1 (Nat.le_refl _)); clear ho1 hw1 HO
          go_wp2
          go_roundw
          case rel => exact ⟨k + 1, ds ++ [Lib.lowerB b], by omega, by congr 1, by rw [HTK.out, HK.out.2], by have := HTL.out; rwa [HK.out.2] at this, HO1.out, HW1.out⟩
          case measure => simp [intOf]; omega
      · have el : ln = n := by rw [hlow]; exact if_neg (by omega)
        have ek : keepB (Lib.lowerB b) = true := by rw [hkeep, el]; simp; omega
        have HK : Hid (#[Value.int .u8 (n)] = ([Lib.lowerB b].map u8v).toArray ∧ [Lib.lowerB b].filter keepB = [Lib.lowerB b]) := Lib.hid ⟨by simp [u8v, hln, el], by simp [ek]⟩
        have f0 : (n != 46) = true := by simp; omega
        have g0 : ¬ n = 46 := by omega
        have f1 : (n != 95) = true := by simp; omega
        have g1 : ¬ n = 95 := by omega
        have f2 : (n != 45) = true := by simp; omega
        have g2 : ¬ n = 45 := by omega
        have u1 : 65 ≤ n := by omega
        have u2 : ¬ (n ≤ 90) := by omega
        clear el ek hlow hkeep hln
        go_wp2_with (at_builtin; refine wp_app_new rfl _ _ 26 rfl Tryd.underlying26 hi hz0 hz1 hz2 rfl HO.out (bs := [Lib.lowerB b]) rfl rfl ?_ HW.out.size ?_ ?_)
        · first | exact HK.out.1 | (have := HK.out.1; simpa using this)
        · unfold lim2; first | omega | (simp only [List.length_singleton]; omega)
        · intro v' w1 ho1 hw1
          have HO1 := Lib.hid ho1; have HW1 := Lib.hid (HW.out.own hw1 (Nat.le_refl _)); clear ho1 hw1 HO
          go_wp2
          go_roundw
          case rel => exact ⟨k + 1, ds ++ [Lib.lowerB b], by omega, by congr 1, by rw [HTK.out, HK.out.2], by have := HTL.out; rwa [HK.out.2] at this, HO1.out, HW1.out⟩
          case measure => simp [intOf]; omega
    · have hke : k = l.length := by omega
      subst hke
      have hfin : ds = ds0 := by rw [HDS.out, List.take_length, HD0.out]
      subst hfin
      have HWN := Lib.hid (Wn.of_own HO.out)
      have hdl2 : ds.length ≤ 4294967296 := by omega
      clear HO HDS HD0 hdl HS
      go_wp2
      have HWR := Lib.hid HW.out
      go_loopw [3] (fun v w2 => ∃ r : List UInt8, w2 = wr ∧ Wn wr v r ∧ r.dropWhile Lib.isSp = r1 ∧ r.length ≤ 4294967296) (fun v _ => lenOf v)
      case atStart => exact ⟨ds, rfl, HWN.out, HR1.out, hdl2⟩
      case round =>
        obtain ⟨r, rfl, hwn, hrr, hrl⟩ := hrel
        cases r with
        | nil =>
          obtain ⟨A, c, rfl, _⟩ := hwn.len
          have HN := Lib.hid hwn
          have HRR := Lib.hid hrr
          clear hwn hrr
          go_wp2
          have HRT : Hid ((([] : List UInt8).reverse.dropWhile Lib.isSp).reverse = r2) := Lib.hid (by rw [← HR2.out, ← HRR.out]; rfl)
          clear HR2
          go_loopw [3] (fun v w2 => ∃ r : List UInt8, w2 = wr ∧ Wn wr v r ∧ (r.reverse.dropWhile Lib.isSp).reverse = r2 ∧ r.length ≤ 4294967296) (fun v _ => lenOf v)
          case atStart => exact ⟨([] : List UInt8), rfl, HN.out, HRT.out, hrl⟩
          case round =>
            obtain ⟨r, rfl, hwn, hrr, hrl2⟩ := hrel
            rcases List.eq_nil_or_concat r with rfl | ⟨q, y, rfl⟩
            · obtain ⟨A, c2, hv, _⟩ := hwn.len
              have hv' : u3 = .slice A 0 c2 := hv
              clear hv
              subst hv'
              have HN2 := Lib.hid hwn
              have hr2 : r2 = [] := by rw [← hrr]; rfl
              subst hr2
              clear hwn hrr HRT
              go_wp2_with (first
                | (rw [HN2.out.conv Tryd.underlying26 Tryd.underlying5 Tryd.underlying9]; simp only [Result.andThen]; rw [Oper.upon_value])
                | fail)
              go_ret
              exact ⟨rfl, HWR.out⟩
            · rw [List.concat_eq_append] at *
              obtain ⟨D2, o2, c2, hv, hcl2, hcell2⟩ := hwn.ne (by simp)
              have hc2 : wr.cell? ⟨D2, o2 + q.length, none⟩ = some (.int .u8 (y.toNat : Int)) := by have := hcell2 q.length y (by simp); simpa [u8v] using this
              rw [show (q ++ [y]).length = q.length + 1 by simp] at hv hcl2 hrl2
              subst hv
              have HN2 := Lib.hid hwn
              have HC2 := Lib.hid hcell2
              have HR3 := Lib.hid hrr
              have e5 : wrap64 ((q.length : Int) + 1 - 1) = q.length := by unfold wrap64; omega
              clear hwn hcell2 hrr HRT
              by_cases hsp2 : Lib.isSp y = true
              · go_wp2_with (first
                  | (go_at_call 24; refine (blank_c _ y).mono ?_; rintro e3 w3 ⟨rfl, h3⟩; have h3 := h3.symm; subst h3)
                  | fail)
                have key : Wn wr (.slice (some ⟨D2, o2, none⟩) q.length c2) q := .inr ⟨D2, o2, c2, rfl, by omega, fun j b hb => HC2.out j b (by rw [List.getElem?_append_left (List.getElem?_eq_some_iff.1 hb).1]; exact hb)⟩
                have key2 : (q.reverse.dropWhile Lib.isSp).reverse = r2 := by rw [← HR3.out]; simp [hsp2]
                first
                  | exact ⟨⟨q, trivial, key, key2, by omega⟩, by simp [lenOf]⟩
                  | (refine ⟨?_, by simp [lenOf]⟩
                     have hq : q.length ≤ 4294967296 := by omega
                     repeat (first | exact ⟨⟨q, trivial, key, key2, hq⟩, rfl⟩ | apply Exists.intro))
                  | (go_roundw
                     case rel => exact ⟨q, rfl, key, key2, by omega⟩
                     case measure => simp [lenOf])
              · have hsp2' : Lib.isSp y = false := by simpa using hsp2
                have hr2 : r2 = q ++ [y] := by rw [← HR3.out]; simp [hsp2']
                subst hr2
                go_wp2_with (first
                  | (go_at_call 24; refine (blank_c _ y).mono ?_; rintro e3 w3 ⟨rfl, h3⟩; have h3 := h3.symm; subst h3)
                  | (rw [HN2.out.conv Tryd.underlying26 Tryd.underlying5 Tryd.underlying9]; simp only [Result.andThen]; rw [Oper.upon_value])
                  | fail)
                go_ret
                exact ⟨rfl, HWR.out⟩
        | cons x r' =>
          obtain ⟨D, o, c, rfl, hcl, hcell⟩ := hwn.ne (by simp)
          have hc0 : wr.cell? ⟨D, o, none⟩ = some (.int .u8 (x.toNat : Int)) := by have := hcell 0 x (by simp); simpa [u8v] using this
          have HN := Lib.hid hwn
          have HC := Lib.hid hcell
          have HRR := Lib.hid hrr
          clear hwn hcell hrr
          by_cases hsp : Lib.isSp x = true
          · go_wp2_with (first
              | (go_at_call 24; refine (blank_c _ x).mono ?_; rintro e3 w3 ⟨rfl, h3⟩; have h3 := h3.symm; subst h3)
              | fail)
            have hcl' : r'.length + 1 ≤ c := hcl
            refine ⟨⟨r', trivial, ?_, by rw [← HRR.out, List.dropWhile_cons, if_pos hsp], by simp at hrl; omega⟩, by simp [lenOf]⟩
            by_cases hc1 : c = 1
            · rw [if_pos hc1]
              refine .inr ⟨D, o, c - 1, rfl, by omega, fun j b hb => ?_⟩
              have := (List.getElem?_eq_some_iff.1 hb).1
              omega
            · rw [if_neg hc1]
              refine .inr ⟨D, o + 1, c - 1, rfl, by omega, fun j b hb => ?_⟩
              have := HC.out (j + 1) b (by simpa using hb)
              rwa [show o + (j + 1) = o + 1 + j by omega] at this
          · have hsp' : Lib.isSp x = false := by simpa using hsp
            go_wp2_with (first
              | (go_at_call 24; refine (blank_c _ x).mono ?_; rintro e3 w3 ⟨rfl, h3⟩; have h3 := h3.symm; subst h3)
              | fail)
            have HRT : Hid (((x :: r').reverse.dropWhile Lib.isSp).reverse = r2) := Lib.hid (by rw [← HR2.out, ← HRR.out, List.dropWhile_cons, if_neg hsp])
            clear HR2
            go_loopw [3] (fun v w2 => ∃ r : List UInt8, w2 = wr ∧ Wn wr v r ∧ (r.reverse.dropWhile Lib.isSp).reverse = r2 ∧ r.length ≤ 4294967296) (fun v _ => lenOf v)
            case atStart => exact ⟨(x :: r'), rfl, HN.out, HRT.out, hrl⟩
            case round =>
              obtain ⟨r, rfl, hwn, hrr, hrl2⟩ := hrel
              rcases List.eq_nil_or_concat r with rfl | ⟨q, y, rfl⟩
              · obtain ⟨A, c2, hv, _⟩ := hwn.len
                have hv' : u3 = .slice A 0 c2 := hv
                clear hv
                subst hv'
                have HN2 := Lib.hid hwn
                have hr2 : r2 = [] := by rw [← hrr]; rfl
                subst hr2
                clear hwn hrr HRT
                go_wp2_with (first
                  | (rw [HN2.out.conv Tryd.underlying26 Tryd.underlying5 Tryd.underlying9]; simp only [Result.andThen]; rw [Oper.upon_value])
                  | fail)
                go_ret
                exact ⟨rfl, HWR.out⟩
              · rw [List.concat_eq_append] at *
                obtain ⟨D2, o2, c2, hv, hcl2, hcell2⟩ := hwn.ne (by simp)
                have hc2 : wr.cell? ⟨D2, o2 + q.length, none⟩ = some (.int .u8 (y.toNat : Int)) := by have := hcell2 q.length y (by simp); simpa [u8v] using this
                rw [show (q ++ [y]).length = q.length + 1 by simp] at hv hcl2 hrl2
                subst hv
                have HN2 := Lib.hid hwn
                have HC2 := Lib.hid hcell2
                have HR3 := Lib.hid hrr
                have e5 : wrap64 ((q.length : Int) + 1 - 1) = q.length := by unfold wrap64; omega
                clear hwn hcell2 hrr HRT
                by_cases hsp2 : Lib.isSp y = true
                · go_wp2_with (first
                    | (go_at_call 24; refine (blank_c _ y).mono ?_; rintro e3 w3 ⟨rfl, h3⟩; have h3 := h3.symm; subst h3)
                    | fail)
                  have key : Wn wr (.slice (some ⟨D2, o2, none⟩) q.length c2) q := .inr ⟨D2, o2, c2, rfl, by omega, fun j b hb => HC2.out j b (by rw [List.getElem?_append_left (List.getElem?_eq_some_iff.1 hb).1]; exact hb)⟩
                  have key2 : (q.reverse.dropWhile Lib.isSp).reverse = r2 := by rw [← HR3.out]; simp [hsp2]
                  first
                    | exact ⟨⟨q, trivial, key, key2, by omega⟩, by simp [lenOf]⟩
                    | (refine ⟨?_, by simp [lenOf]⟩
                       have hq : q.length ≤ 4294967296 := by omega
                       repeat (first | exact ⟨⟨q, trivial, key, key2, hq⟩, rfl⟩ | apply Exists.intro))
                    | (go_roundw
                       case rel => exact ⟨q, rfl, key, key2, by omega⟩
                       case measure => simp [lenOf])
                · have hsp2' : Lib.isSp y = false := by simpa using hsp2
                  have hr2 : r2 = q ++ [y] := by rw [← HR3.out]; simp [hsp2']
                  subst hr2
                  go_wp2_with (first
                    | (go_at_call 24; refine (blank_c _ y).mono ?_; rintro e3 w3 ⟨rfl, h3⟩; have h3 := h3.symm; subst h3)
                    | (rw [HN2.out.conv Tryd.underlying26 Tryd.underlying5 Tryd.underlying9]; simp only [Result.andThen]; rw [Oper.upon_value])
                    | fail)
                  go_ret
                  exact ⟨rfl, HWR.out⟩
end Go.Proofs.YthlfepgcjomhpaaDoor.Kf
