/- Batches of records in this program: the package's reading of one, as the law asks it. -/
import Derived.Test.YtcanhgcceagplaaDoorTbE
import Derived.Deep.MidRow
namespace Go.Proofs.YtcanhgcceagplaaDoor.Kf
set_option linter.unusedVariables false
set_option linter.unusedSimpArgs false
open Go Go.RowKit

theorem results_ct {P : Program} {fn : Func} {p q : Tmp} {ty : TypeId} (h : fn.results = #[.cell p ty, .tmp q]) (tmps : Array Value) (w : World) (g : Nat) (t : TypeId) (cs : Array Value) (fr : Nat × Nat) (d : TypeDesc)
    (hp : tmps.getD p undef = .pointer (some ⟨g, 0, none⟩)) (hg : w.heap[g]? = some (.cells cs t fr))
    (hu : P.underlying ty = some d) (hd : (match d with | .struct _ | .array _ _ => true | _ => false) = true) (hi : (P.info? ty).map (·.size) = some cs.size) :
    (results fn tmps).run P w = .ok (.tuple #[.agg cs, tmps.getD q undef]) w := by
  have hp' : tmps[p]?.getD undef = .pointer (some ⟨g, 0, none⟩) := by simpa using hp
  simp [results, h, hp', asAddr, run_loadVar_row w g t ty cs fr d hg hu hd hi]
/-- What lies there. -/
noncomputable def peek (w : World) (b j : Nat) : Value := (w.cell? ⟨b, j, none⟩).getD undef
theorem peek_of {w : World} {b j : Nat} (h : (w.cell? ⟨b, j, none⟩).isSome = true) : w.cell? ⟨b, j, none⟩ = some (peek w b j) := by
  unfold peek
  cases hq : w.cell? ⟨b, j, none⟩ with
  | none => rw [hq] at h; cases h
  | some v => rfl
def RowAt (w : World) (b : Nat) (C : Array Value) : Prop := ∀ j u, C[j]? = some u → w.cell? ⟨b, j, none⟩ = some u
def Th (w : World) (b : Nat) : Prop := ∃ cs t, w.heap[b]? = some (.cells cs t (0, 0)) ∧ cs.size = 14
theorem rowAt_setCell {w : World} {b b' j : Nat} {v : Value} {C : Array Value} (hne : b ≠ b') (h : RowAt w b C) : RowAt (w.setCell ⟨b', j, none⟩ v) b C := fun i u hi => by
  rw [World.cell?_of_block (w := w) (heap_setCell_other _ _ _ _ hne)]
  exact h i u hi
theorem th_setCell {w : World} {b j : Nat} {v : Value} (h : Th w b) : Th (w.setCell ⟨b, j, none⟩ v) b := by
  obtain ⟨cs, t, h, hs⟩ := h
  exact ⟨_, t, heap_setCell_same _ _ j _ _ _ h, by simpa using hs⟩
theorem th_peek {w : World} {b j : Nat} (h : Th w b) (hj : j < 14) : w.cell? ⟨b, j, none⟩ = some (peek w b j) := by
  obtain ⟨cs, t, h, hs⟩ := h
  refine peek_of ?_
  rw [cell_row h (Array.getElem?_eq_getElem (by omega))]
  rfl
theorem th_froz {w : World} {b j : Nat} (h : Th w b) : w.frozen? ⟨b, j, none⟩ = false := by
  obtain ⟨cs, t, h, hs⟩ := h
  simp [World.frozen?, h]
theorem set14 {w : World} {b t : Nat} (h : w.heap[b]? = some (.cells #[.int .i64 0, .int .i32 0, .int .i32 0, .int .i8 0, .int .i32 0, .int .i16 0, .int .i32 0, .int .i64 0, .int .i64 0, .int .i64 0, .int .i16 0, .int .i32 0, .int .i32 0, .slice none 0 0] t (0, 0))) (v0 v1 v2 v3 v4 v5 v6 v7 v8 v9 v10 v11 v12 v13 : Value) : ((((((((((((((w.setCell ⟨b, 0, none⟩ v0).setCell ⟨b, 1, none⟩ v1).setCell ⟨b, 2, none⟩ v2).setCell ⟨b, 3, none⟩ v3).setCell ⟨b, 4, none⟩ v4).setCell ⟨b, 5, none⟩ v5).setCell ⟨b, 6, none⟩ v6).setCell ⟨b, 7, none⟩ v7).setCell ⟨b, 8, none⟩ v8).setCell ⟨b, 9, none⟩ v9).setCell ⟨b, 10, none⟩ v10).setCell ⟨b, 11, none⟩ v11).setCell ⟨b, 12, none⟩ v12).setCell ⟨b, 13, none⟩ v13).heap[b]? = some (.cells #[v0, v1, v2, v3, v4, v5, v6, v7, v8, v9, v10, v11, v12, v13] t (0, 0)) := by
  have h0 := heap_setCell_same _ b 0 _ t v0 h
  have h1 := heap_setCell_same _ b 1 _ t v1 h0
  have h2 := heap_setCell_same _ b 2 _ t v2 h1
  have h3 := heap_setCell_same _ b 3 _ t v3 h2
  have h4 := heap_setCell_same _ b 4 _ t v4 h3
  have h5 := heap_setCell_same _ b 5 _ t v5 h4
  have h6 := heap_setCell_same _ b 6 _ t v6 h5
  have h7 := heap_setCell_same _ b 7 _ t v7 h6
  have h8 := heap_setCell_same _ b 8 _ t v8 h7
  have h9 := heap_setCell_same _ b 9 _ t v9 h8
  have h10 := heap_setCell_same _ b 10 _ t v10 h9
  have h11 := heap_setCell_same _ b 11 _ t v11 h10
  have h12 := heap_setCell_same _ b 12 _ t v12 h11
  have h13 := heap_setCell_same _ b 13 _ t v13 h12
  simpa only [List.setIfInBounds_toArray, List.set_cons_zero, List.set_cons_succ] using h13
theorem own_after {U base : Nat} {w w' : World} {v : Value} {s : List UInt8} (h : Own U base w v s) (hw : ∀ g, base ≤ g → w'.heap[g]? = w.heap[g]?) (hs : w.heap.size ≤ w'.heap.size) : Oc w' w'.heap.size v s := by
  have hlt := World.ownsRow.lt h
  have hc : ∀ g, v.ownBlock = some g → ∀ j u, (s.map u8v)[j]? = some u → w.cell? ((⟨g, 0, none⟩ : Addr).add j) = some u := fun g hg => World.ownsRow.cells h hg
  rcases h.2 with ⟨rfl, h0⟩ | ⟨g, cap, cur, rfl, hbg, hg, hn, _⟩
  · exact .inl ⟨rfl, List.eq_nil_of_length_eq_zero h0⟩
  · refine .inr ⟨_, cap, rfl, hn, fun j b hb => ⟨Nat.lt_of_lt_of_le (hlt g rfl).2 hs, ?_⟩⟩
    have := hc g rfl j (u8v b) (by rw [List.getElem?_map, hb]; rfl)
    rw [Addr.add_lit] at this ⊢
    rw [World.cell?_of_block (w := w) (hw g hbg)]
    exact this

set_option maxRecDepth 100000 in
theorem rfw_calls {w : World} {D b : Nat} {nn : Bool} {A : Option Addr} {n c : Nat} {bs s : List UInt8} {bt : Bt} (hb : Blk w b 14) (hs : Sp w D nn (.slice A n c) bs) (hbs : bs ++ s = bt.out) (hok : bt.ok) (hn1 : bt.n1 = 49 + bt.rs.length) (hl : bt.rs.length ≤ 200000) (hDl : D < w.heap.size) (hbD : b ≠ D) (hI : ErrI w) (hbg : b ≠ gB) :
    Calls Tryd.prog 23 #[.pointer (some ⟨b, 0, none⟩), .slice A n c] w (RfP D b bt s w) := by
  have cc := Lib.hid (rf_calls hb hs hbs hok hn1 hl hDl hbD hI hbg)
  clear hb hs hbs hok hn1 hl hDl hbD hI hbg
  go_enter Tryd.func23, Tryd.ntmps23
  go_wp2_with (first | (go_at_call 34; refine cc.out.mono ?_; rintro e1 w1 ⟨v1, rfl, h1⟩; have HR1 := Lib.hid h1; clear h1 cc) | fail)
  go_ret
  exact ⟨_, rfl, HR1.out⟩

theorem own0 {w : World} {B : Nat} {v : Value} {bs : List UInt8} (hB : B ≤ w.heap.size) (hv : Oc w B v bs) (hl : bs.length ≤ lim2) (h0 : 0 < w.heap.size) (w' : World) (O : Only (fun _ => False) w w') : Calls Tryd.prog 24 #[v] w' (fun e w'' => ∃ D nn A n c, e = .returned (.slice A n c) ∧ Sp w'' D nn (.slice A n c) bs ∧ D < w''.heap.size ∧ (D = 0 ∨ w'.heap.size ≤ D) ∧ Only (fun _ => False) w' w'') :=
  (own_calls w' B v bs (Nat.le_trans hB O.size) (hv.keep (O.kept0 hB)) hl).mono fun e w'' h => by
    obtain ⟨v, rfl, ho, hO⟩ := h
    have h1 := O.size
    have h2 := hO.size
    obtain ⟨D, nn, A, n, c, rfl, hs, hD, hb⟩ := ho.sp (by omega) (by omega)
    exact ⟨D, nn, A, n, c, rfl, hs, hD, hb, hO⟩
theorem errI_lt {w : World} (h : ErrI w) : gB < w.heap.size := by
  obtain ⟨t, u, h⟩ := h
  exact World.block_lt_of_cell? w _ h
theorem rd0 {w : World} {bs s : List UInt8} {bt : Bt} (hbs : bs ++ s = bt.out) (hok : bt.ok) (hn1 : bt.n1 = 49 + bt.rs.length) (hl : bt.rs.length ≤ 200000) (hI : ErrI w) (w3 : World) (D : Nat) (nn : Bool) (A : Option Addr) (n c : Nat) (O : Only (fun _ => False) ((w.alloc (.cells #[.int .i64 0, .int .i32 0, .int .i32 0, .int .i8 0, .int .i32 0, .int .i16 0, .int .i32 0, .int .i64 0, .int .i64 0, .int .i64 0, .int .i16 0, .int .i32 0, .int .i32 0, .slice none 0 0] 26)).alloc (.cells #[.int .i64 0, .int .i32 0, .int .i32 0, .int .i8 0, .int .i32 0, .int .i16 0, .int .i32 0, .int .i64 0, .int .i64 0, .int .i64 0, .int .i16 0, .int .i32 0, .int .i32 0, .slice none 0 0] 50)) w3) (hs : Sp w3 D nn (.slice A n c) bs) (hD : D < w3.heap.size) (hd : D = 0 ∨ ((w.alloc (.cells #[.int .i64 0, .int .i32 0, .int .i32 0, .int .i8 0, .int .i32 0, .int .i16 0, .int .i32 0, .int .i64 0, .int .i64 0, .int .i64 0, .int .i16 0, .int .i32 0, .int .i32 0, .slice none 0 0] 26)).alloc (.cells #[.int .i64 0, .int .i32 0, .int .i32 0, .int .i8 0, .int .i32 0, .int .i16 0, .int .i32 0, .int .i64 0, .int .i64 0, .int .i64 0, .int .i16 0, .int .i32 0, .int .i32 0, .slice none 0 0] 50)).heap.size ≤ D) :
    Calls Tryd.prog 23 #[.pointer (some ⟨w.heap.size + 1, 0, none⟩), .slice A n c] w3 (RfP D (w.heap.size + 1) bt s w3) := by
  have hlt := errI_lt hI
  have hsz : ((w.alloc (.cells #[.int .i64 0, .int .i32 0, .int .i32 0, .int .i8 0, .int .i32 0, .int .i16 0, .int .i32 0, .int .i64 0, .int .i64 0, .int .i64 0, .int .i16 0, .int .i32 0, .int .i32 0, .slice none 0 0] 26)).alloc (.cells #[.int .i64 0, .int .i32 0, .int .i32 0, .int .i8 0, .int .i32 0, .int .i16 0, .int .i32 0, .int .i64 0, .int .i64 0, .int .i64 0, .int .i16 0, .int .i32 0, .int .i32 0, .slice none 0 0] 50)).heap.size = w.heap.size + 2 := by simp
  have hb1 : ((w.alloc (.cells #[.int .i64 0, .int .i32 0, .int .i32 0, .int .i8 0, .int .i32 0, .int .i16 0, .int .i32 0, .int .i64 0, .int .i64 0, .int .i64 0, .int .i16 0, .int .i32 0, .int .i32 0, .slice none 0 0] 26)).alloc (.cells #[.int .i64 0, .int .i32 0, .int .i32 0, .int .i8 0, .int .i32 0, .int .i16 0, .int .i32 0, .int .i64 0, .int .i64 0, .int .i64 0, .int .i16 0, .int .i32 0, .int .i32 0, .slice none 0 0] 50)).heap[w.heap.size + 1]? = some (.cells #[.int .i64 0, .int .i32 0, .int .i32 0, .int .i8 0, .int .i32 0, .int .i16 0, .int .i32 0, .int .i64 0, .int .i64 0, .int .i64 0, .int .i16 0, .int .i32 0, .int .i32 0, .slice none 0 0] 50 (0, 0)) := by
    have := heap_alloc_new (w.alloc (.cells #[.int .i64 0, .int .i32 0, .int .i32 0, .int .i8 0, .int .i32 0, .int .i16 0, .int .i32 0, .int .i64 0, .int .i64 0, .int .i64 0, .int .i16 0, .int .i32 0, .int .i32 0, .slice none 0 0] 26)) (.cells #[.int .i64 0, .int .i32 0, .int .i32 0, .int .i8 0, .int .i32 0, .int .i16 0, .int .i32 0, .int .i64 0, .int .i64 0, .int .i64 0, .int .i16 0, .int .i32 0, .int .i32 0, .slice none 0 0] 50)
    simpa using this
  have O2 : Only (fun _ => False) w w3 := (((Only.refl _ _).alloc _).alloc _).trans O
  refine rfw_calls ⟨_, _, (O.block _ (by omega) id).trans hb1, rfl⟩ hs hbs hok hn1 hl hD (by omega) (errI_only hI O2 id) (by omega)

set_option maxRecDepth 100000 in
set_option maxHeartbeats 1000000 in
theorem tell_bad (w : World) (B : Nat) (bt : Bt) (v : Value) (bs s : List UInt8) (hB : B ≤ w.heap.size) (hv : Oc w B v bs) (hbs : bs ++ s = bt.out) (hse : s ≠ []) (hok : bt.ok) (hn1 : bt.n1 = 49 + bt.rs.length) (hl : bt.rs.length ≤ 200000) (hI : ErrI w) :
    Calls Tryd.prog 9 #[v] w fun e w' => e = .returned (.tuple #[.agg #[.int .i64 0, .int .i32 0, .int .i32 0, .int .i8 0, .int .i32 0, .int .i16 0, .int .i32 0, .int .i64 0, .int .i64 0, .int .i64 0, .int .i16 0, .int .i32 0, .int .i32 0, .slice none 0 0], .bool false]) ∧ Only (fun _ => False) w w' := by
  have hlt := errI_lt hI
  have hlen : bs.length ≤ lim2 := by have := congrArg List.length hbs; rw [List.length_append, bt.out_len] at this; unfold lim2; omega
  have cO := Lib.hid (own0 hB hv hlen (by omega))
  have cR := Lib.hid (rd0 hbs hok hn1 hl hI)
  have HSE := Lib.hid hse
  have HO0 : Hid (Only (fun _ => False) w ((w.alloc (.cells #[.int .i64 0, .int .i32 0, .int .i32 0, .int .i8 0, .int .i32 0, .int .i16 0, .int .i32 0, .int .i64 0, .int .i64 0, .int .i64 0, .int .i16 0, .int .i32 0, .int .i32 0, .slice none 0 0] 26)).alloc (.cells #[.int .i64 0, .int .i32 0, .int .i32 0, .int .i8 0, .int .i32 0, .int .i16 0, .int .i32 0, .int .i64 0, .int .i64 0, .int .i64 0, .int .i16 0, .int .i32 0, .int .i32 0, .slice none 0 0] 50))) := Lib.hid (((Only.refl _ _).alloc _).alloc _)
  have HB0 : Hid (((w.alloc (.cells #[.int .i64 0, .int .i32 0, .int .i32 0, .int .i8 0, .int .i32 0, .int .i16 0, .int .i32 0, .int .i64 0, .int .i64 0, .int .i64 0, .int .i16 0, .int .i32 0, .int .i32 0, .slice none 0 0] 26)).alloc (.cells #[.int .i64 0, .int .i32 0, .int .i32 0, .int .i8 0, .int .i32 0, .int .i16 0, .int .i32 0, .int .i64 0, .int .i64 0, .int .i64 0, .int .i16 0, .int .i32 0, .int .i32 0, .slice none 0 0] 50)).heap[w.heap.size]? = some (.cells #[.int .i64 0, .int .i32 0, .int .i32 0, .int .i8 0, .int .i32 0, .int .i16 0, .int .i32 0, .int .i64 0, .int .i64 0, .int .i64 0, .int .i16 0, .int .i32 0, .int .i32 0, .slice none 0 0] 26 (0, 0)) ∧ ((w.alloc (.cells #[.int .i64 0, .int .i32 0, .int .i32 0, .int .i8 0, .int .i32 0, .int .i16 0, .int .i32 0, .int .i64 0, .int .i64 0, .int .i64 0, .int .i16 0, .int .i32 0, .int .i32 0, .slice none 0 0] 26)).alloc (.cells #[.int .i64 0, .int .i32 0, .int .i32 0, .int .i8 0, .int .i32 0, .int .i16 0, .int .i32 0, .int .i64 0, .int .i64 0, .int .i64 0, .int .i16 0, .int .i32 0, .int .i32 0, .slice none 0 0] 50)).heap.size = w.heap.size + 2) := Lib.hid ⟨by rw [heap_alloc_old (by simp), heap_alloc_new], by simp⟩
  obtain ⟨A, c, rfl, _⟩ := hv.sl
  clear hB hv hbs hse hok hn1 hl hI hlt hlen
  go_enter Tryd.func9, Tryd.ntmps9
  go_wp2_with (first
    | (go_at_call 24; refine (cO.out _ HO0.out).mono ?_; rintro e3 w3 ⟨D3, nn3, A3, n3, c3, rfl, hs3, hd3, hb3, ho3⟩; have HS3 := Lib.hid hs3; have HD3 := Lib.hid hd3; have HB3 := Lib.hid hb3; have HT3 := Lib.hid ho3; clear hs3 hd3 hb3 ho3 cO)
    | (go_at_call 23; refine (cR.out _ _ _ _ _ _ HT3.out HS3.out HD3.out HB3.out).mono ?_; rintro e4 w4 ⟨v4, rfl, ho4, _, h4⟩; obtain ⟨t4, u4, rfl⟩ := h4 HSE.out; have HT4 := Lib.hid ho4; have HB4 : Hid (w4.heap[w.heap.size]? = some (.cells #[.int .i64 0, .int .i32 0, .int .i32 0, .int .i8 0, .int .i32 0, .int .i16 0, .int .i32 0, .int .i64 0, .int .i64 0, .int .i64 0, .int .i16 0, .int .i32 0, .int .i32 0, .slice none 0 0] 26 (0, 0))) := Lib.hid (((ho4.block _ (by have := HT3.out.size; have := HB0.out.2; omega) (by omega)).trans (HT3.out.block _ (by have := HB0.out.2; omega) id)).trans HB0.out.1); clear ho4 h4 cR; have z0 := cell_row (j := 0) HB4.out rfl; have z1 := cell_row (j := 1) HB4.out rfl; have z2 := cell_row (j := 2) HB4.out rfl; have z3 := cell_row (j := 3) HB4.out rfl; have z4 := cell_row (j := 4) HB4.out rfl; have z5 := cell_row (j := 5) HB4.out rfl; have z6 := cell_row (j := 6) HB4.out rfl; have z7 := cell_row (j := 7) HB4.out rfl; have z8 := cell_row (j := 8) HB4.out rfl; have z9 := cell_row (j := 9) HB4.out rfl; have z10 := cell_row (j := 10) HB4.out rfl; have z11 := cell_row (j := 11) HB4.out rfl; have z12 := cell_row (j := 12) HB4.out rfl; have z13 := cell_row (j := 13) HB4.out rfl; have hth : Th w4 w.heap.size := ⟨_, _, HB4.out, rfl⟩; have y0 := th_froz (j := 0) hth; have y1 := th_froz (j := 1) hth; have y2 := th_froz (j := 2) hth; have y3 := th_froz (j := 3) hth; have y4 := th_froz (j := 4) hth; have y5 := th_froz (j := 5) hth; have y6 := th_froz (j := 6) hth; have y7 := th_froz (j := 7) hth; have y8 := th_froz (j := 8) hth; have y9 := th_froz (j := 9) hth; have y10 := th_froz (j := 10) hth; have y11 := th_froz (j := 11) hth; have y12 := th_froz (j := 12) hth; have y13 := th_froz (j := 13) hth)
    | fail)
  refine bodyPost_ret (results_ct Tryd.results9 _ _ w.heap.size 26 #[.int .i64 0, .int .i32 0, .int .i32 0, .int .i8 0, .int .i32 0, .int .i16 0, .int .i32 0, .int .i64 0, .int .i64 0, .int .i64 0, .int .i16 0, .int .i32 0, .int .i32 0, .slice none 0 0] (0, 0) _ rfl (set14 HB4.out (.int .i64 0) (.int .i32 0) (.int .i32 0) (.int .i8 0) (.int .i32 0) (.int .i16 0) (.int .i32 0) (.int .i64 0) (.int .i64 0) (.int .i64 0) (.int .i16 0) (.int .i32 0) (.int .i32 0) (.slice none 0 0)) Tryd.underlying26 rfl info_bt) rfl ⟨rfl, ?_⟩
  repeat refine only_setCell ?_ (Nat.le_refl _)
  have h1 := HO0.out.trans HT3.out
  exact ⟨HT4.out.os.trans h1.os, HT4.out.tape.trans h1.tape, HT4.out.output.trans h1.output, Nat.le_trans h1.size HT4.out.size, fun k hk hf => (HT4.out.block k (Nat.lt_of_lt_of_le hk h1.size) (by omega)).trans (h1.block k hk hf)⟩
end Go.Proofs.YtcanhgcceagplaaDoor.Kf
