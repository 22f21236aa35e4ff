/- Reading, the ninth part: a whole message: what stands ahead of its fields and behind them. -/
import Derived.Test.YtpefipjgcpchaaaGreatDoorRPC
import Derived.Test.YtpefipjgcpchaaaGreatDoorRKbA
namespace Go.Proofs.YtpefipjgcpchaaaGreatDoorR.Kf
set_option linter.unusedVariables false
set_option linter.unusedSimpArgs false
open Go Go.RowKit

/-- The type of the reader. -/
structure RdrT (P : Program) (RT : Nat) : Prop where
  bld : ∀ (A : Option Addr) (n c : Nat) (w : World), (Instr.build RT #[(0, .slice A n c)]).run P w = .ok (.agg #[.slice A n c, .bool false]) w
  alc : ∀ (o : Oper) (a : Act) (w : World), o.op = .alloc RT → (execOp a.eval o).run P w = .ok (.value (.pointer (some ⟨w.heap.size, 0, none⟩))) (w.alloc (.cells #[.slice none 0 0, .bool false] RT))
  sz : ∃ inf, P.info? RT = some inf ∧ inf.size = 2

section
variable {P : Program} {Q : Exit → Act → World → Prop}

theorem runs_build {RT : Nat} (hR : RdrT P RT) {a : Act} {w : World} {x : Operand} {A : Option Addr} {n c : Nat} (hx : a.eval x = .slice A n c) : Runs P a w (.build RT #[(0, x)]) (.agg #[.slice A n c, .bool false]) w := by
  intro o h
  simp [execOp, h, hx, hR.bld]
theorem runs_alloc {RT : Nat} (hR : RdrT P RT) {a : Act} {w : World} : Runs P a w (.alloc RT) (.pointer (some ⟨w.heap.size, 0, none⟩)) (w.alloc (.cells #[.slice none 0 0, .bool false] RT)) := fun o h => hR.alc o a w h

theorem gNil_wp {d : Nat} {v : Value} {c0 : Code} {a : Act} {w : World} (hd : d < a.tmps.size) (h : ∀ a', Ag (· = d) a a' → gt a' d = v → Q .normal a' w) : (reg [⟨some d, .assign (.const v), none⟩] c0).wp P Q a w :=
  wp_reg (wpC_val (runs_assign _) (wpC_nil (h _ ((Ag.refl (fun j => j = d) _).put (d := d) rfl hd _) (by rw [gt_put hd, if_pos rfl]; rfl))))

def gDef (DF PT m : Nat) (c : Code) : Code := reg [⟨some m, .move (.tmp 0), none⟩, ⟨some (m + 1), .call ⟨.value (.func DF), #[.tmp m], #[PT]⟩, none⟩] c
theorem gDef_wp {DF PT m sz b N : Nat} {ks : List Nat} {c0 : Code} {a : Act} {w : World} (hD : DefC P DF sz ks) (h0 : gt a 0 = .pointer (some ⟨b, 0, none⟩)) (hb : Blk w b N) (hs : sz ≤ N) (hN : m + 2 ≤ a.tmps.size) (hm : 2 < m)
    (h : ∀ a' w', Ag (Tm m) a a' → Only (· = b) w w' → Upd b 0 sz w w' → (∀ o ∈ ks, w'.cell? ⟨b, o, none⟩ = w.cell? ⟨b, o, none⟩) → Q .normal a' w') : (gDef DF PT m c0).wp P Q a w := by
  have z0 : m < a.tmps.size := by omega
  refine wp_reg (wpC_val (runs_move _) ?_)
  rw [evT, h0]
  have g1 := (Ag.refl (Tm m) a).put (d := m) (by unfold Tm; omega) z0 (.pointer (some ⟨b, 0, none⟩))
  have e1 : gt (a.put (some m) (.pointer (some ⟨b, 0, none⟩))) m = .pointer (some ⟨b, 0, none⟩) := by rw [gt_put z0, if_pos rfl]
  generalize a.put (some m) (.pointer (some ⟨b, 0, none⟩)) = a1 at g1 e1
  have hc := hD.2 w b 0 N hb (by omega)
  refine wpC_call (R := fun v w' => Only (· = b) w w' ∧ Upd b 0 (0 + sz) w w' ∧ ∀ o ∈ ks, w'.cell? ⟨b, 0 + o, none⟩ = w.cell? ⟨b, 0 + o, none⟩) hD.1 (by
    have e : (#[Operand.tmp m] : Array Operand).map a1.eval = #[.pointer (some ⟨b, 0, none⟩)] := by
      simp only [gt] at e1
      simp [Act.eval, e1]
    rw [e]; exact hc) ?_
  rintro v w1 ⟨h1, h2, h3⟩
  have z1 : m + 1 < a1.tmps.size := by rw [g1.size]; omega
  refine wpC_nil (h _ w1 (g1.put (d := m + 1) (by unfold Tm; omega) z1 v) h1 (by simpa using h2) (fun o ho => by simpa using h3 o ho))

def gRdr (RT m : Nat) (c : Code) : Code := reg [⟨some m, .move (.tmp 1), none⟩, ⟨some (m + 1), .build RT #[(0, .tmp m)], none⟩, ⟨some 7, .alloc RT, none⟩, ⟨none, .store RT (.tmp 7) (.tmp (m + 1)), none⟩] c
theorem gRdr_wp {RT m : Nat} {c0 : Code} {a : Act} {w : World} {A : Option Addr} {n c : Nat} (hR : RdrT P RT) (h1 : gt a 1 = .slice A n c) (hN : m + 2 ≤ a.tmps.size) (hm : 7 < m)
    (h : ∀ a' w', Ag (fun j => j = 7 ∨ m ≤ j) a a' → gt a' 7 = .pointer (some ⟨w.heap.size, 0, none⟩) → Only (fun _ => False) w w' → w'.heap.size = w.heap.size + 1 → w'.heap[w.heap.size]? = some (.cells #[.slice A n c, .bool false] RT (0, 0)) → Q .normal a' w') : (gRdr RT m c0).wp P Q a w := by
  have z0 : m < a.tmps.size := by omega
  refine wp_reg (wpC_val (runs_move _) ?_)
  rw [evT, h1]
  have g1 := (Ag.refl (fun j => j = 7 ∨ m ≤ j) a).put (d := m) (.inr (Nat.le_refl _)) z0 (.slice A n c)
  have e1 : gt (a.put (some m) (.slice A n c)) m = .slice A n c := by rw [gt_put z0, if_pos rfl]
  generalize a.put (some m) (.slice A n c) = a1 at g1 e1
  refine wpC_val (runs_build hR e1) ?_
  have z1 : m + 1 < a1.tmps.size := by rw [g1.size]; omega
  have g2 := g1.put (d := m + 1) (.inr (by omega)) z1 (.agg #[.slice A n c, .bool false])
  have e2 : gt (a1.put (some (m + 1)) (.agg #[.slice A n c, .bool false])) (m + 1) = .agg #[.slice A n c, .bool false] := by rw [gt_put z1, if_pos rfl]
  generalize a1.put (some (m + 1)) (.agg #[.slice A n c, .bool false]) = a2 at g2 e2
  refine wpC_val (runs_alloc hR) ?_
  have z2 : 7 < a2.tmps.size := by rw [g2.size]; omega
  have g3 := g2.put (d := 7) (.inl rfl) z2 (.pointer (some ⟨w.heap.size, 0, none⟩))
  have e3 : gt (a2.put (some 7) (.pointer (some ⟨w.heap.size, 0, none⟩))) 7 = .pointer (some ⟨w.heap.size, 0, none⟩) := by rw [gt_put z2, if_pos rfl]
  have e3b : gt (a2.put (some 7) (.pointer (some ⟨w.heap.size, 0, none⟩))) (m + 1) = .agg #[.slice A n c, .bool false] := by rw [gt_put z2, if_neg (by omega)]; exact e2
  generalize a2.put (some 7) (.pointer (some ⟨w.heap.size, 0, none⟩)) = a3 at g3 e3 e3b
  have hb : Blk (w.alloc (.cells #[.slice none 0 0, .bool false] RT)) w.heap.size 2 := ⟨_, RT, heap_alloc_new w _, rfl⟩
  obtain ⟨w', hr, hw⟩ := runs_storeN (P := P) (a := a3) (u := RT) (x := .tmp 7) (y := .tmp (m + 1)) (b := w.heap.size) (o := 0) (n := 2) (v := .agg #[.slice A n c, .bool false]) e3 e3b
    (by obtain ⟨inf, hi, hz⟩ := hR.sz; exact ⟨inf, hi, hz⟩) (by intro c hc; simp [Value.cells] at hc; rcases hc with rfl | rfl <;> rfl) hb (by simp [Value.cells])
  refine wpC_skip hr (wpC_nil (h _ w' g3 e3 ?_ ?_ ?_))
  · have := hw.only
    refine ⟨this.os, this.tape, this.output, Nat.le_trans (by simp) this.size, fun k hk _ => ?_⟩
    rw [this.block k (by simp; omega) (by omega)]
    exact heap_alloc_old _ _ hk
  · rw [hw.same]; simp
  · obtain ⟨cur', h1', h2', h3'⟩ := hw.upd _ _ (heap_alloc_new w _)
    rw [h1']
    have c0 := hw.cells 0 (.slice A n c) rfl
    have c1 := hw.cells 1 (.bool false) rfl
    simp only [World.cell?, h1'] at c0 c1
    have hsz : cur'.size = 2 := h2'
    congr 2
    obtain ⟨l⟩ := cur'
    simp at c0 c1 hsz
    match l, hsz, c0, c1 with
    | [p, q], _, c0, c1 => simp at c0 c1; subst c0; subst c1; rfl

/-- The version is read, too, and stored. -/
def gKept (G : Gn) (F T i16 m : Nat) (c : Code) : Code := reg [⟨some m, .move (.tmp 0), none⟩, ⟨some (m + 1), .call ⟨.value (.func F), #[.tmp 7], #[G.rt]⟩, none⟩, ⟨some (m + 2), .nilCheck (.tmp m), none⟩, ⟨some (m + 3), .fieldAddr T (.tmp (m + 2)) 0, none⟩, ⟨none, .store i16 (.tmp (m + 3)) (.tmp (m + 1)), none⟩] c
theorem gKept_wp {G : Gn} {F T i16 m D rb b N : Nat} {c0 : Code} {a : Act} {w : World} {nn : Bool} {bs : List UInt8} {bad : Bool} (hF : NumC P F .i16) (hf : FieldAt P T 0 0 i16 1) (hr : Rd D rb w nn bs bad) (hl : bs.length ≤ lim)
    (h0 : gt a 0 = .pointer (some ⟨b, 0, none⟩)) (h7 : gt a 7 = .pointer (some ⟨rb, 0, none⟩)) (hb : Blk w b N) (hbN : 1 ≤ N) (hbr : b ≠ rb) (hbD : b ≠ D) (hm : 7 < m) (hN : m + 4 ≤ a.tmps.size)
    (h : ∀ a' w' n bs' bad' nn', Ag (Tm m) a a' → Only (fun j => j = rb ∨ j = b) w w' → Upd b 0 1 w w' → w'.cell? ⟨b, 0, none⟩ = some (.int .i16 n) → bs'.length ≤ bs.length → Rd D rb w' nn' bs' bad' →
      ((bad = false ∧ bad' = false ∧ primDec .i16 bs = some (.int n, bs')) ∨ ((bad = true ∨ primDec .i16 bs = none) ∧ bad' = true)) → Q .normal a' w') : (gKept G F T i16 m c0).wp P Q a w := by
  have z0 : m < a.tmps.size := by omega
  refine wp_reg (wpC_val (runs_move _) ?_)
  rw [evT, h0]
  have g1 := (Ag.refl (Tm m) a).put (d := m) (by unfold Tm; omega) z0 (.pointer (some ⟨b, 0, none⟩))
  have e1 : gt (a.put (some m) (.pointer (some ⟨b, 0, none⟩))) m = .pointer (some ⟨b, 0, none⟩) := by rw [gt_put z0, if_pos rfl]
  generalize a.put (some m) (.pointer (some ⟨b, 0, none⟩)) = a1 at g1 e1
  have e17 : gt a1 7 = .pointer (some ⟨rb, 0, none⟩) := (g1.keep 7 (by unfold Tm; omega)).trans h7
  refine wpC_call (R := fun v w' => ∃ n : Int, v = .int .i16 n ∧ Only (· = rb) w w' ∧ ((bad = false ∧ Prim.i16.n ≤ bs.length ∧ n = Prim.i16.conv (beDec (bs.take Prim.i16.n)) ∧ Rd D rb w' true (bs.drop Prim.i16.n) false) ∨ (n = 0 ∧ (bad = true ∨ bs.length < Prim.i16.n) ∧ Rd D rb w' false [] true))) hF.1 (by
    have e : (#[Operand.tmp 7] : Array Operand).map a1.eval = #[.pointer (some ⟨rb, 0, none⟩)] := by
      simp only [gt] at e17
      simp [Act.eval, e17]
    rw [e]
    refine (hF.2 D rb w nn bs bad hr hl).mono ?_
    rintro _ w' ⟨n, rfl, _, _, ho, hc⟩
    exact ⟨_, rfl, n, rfl, ho, hc⟩) ?_
  rintro v w1 ⟨n, rfl, ho, hc⟩
  have hv1 : (Value.int .i16 n).cells.size = 1 := rfl
  have hv2 : ∀ c ∈ (Value.int .i16 n).cells.toList, c.oneCell' = true := by intro c hc; simp [Value.cells] at hc; subst hc; rfl
  generalize hv : Value.int .i16 n = v at hv1 hv2
  have z1 : m + 1 < a1.tmps.size := by rw [g1.size]; omega
  have g2 := g1.put (d := m + 1) (by unfold Tm; omega) z1 v
  have e2 : gt (a1.put (some (m + 1)) v) (m + 1) = v := by rw [gt_put z1, if_pos rfl]
  have e2b : gt (a1.put (some (m + 1)) v) m = .pointer (some ⟨b, 0, none⟩) := by rw [gt_put z1, if_neg (by omega)]; exact e1
  generalize a1.put (some (m + 1)) v = a2 at g2 e2 e2b
  refine wpC_val (runs_nilCheck (p := ⟨b, 0, none⟩) e2b) ?_
  have z2 : m + 2 < a2.tmps.size := by rw [g2.size]; omega
  have g3 := g2.put (d := m + 2) (by unfold Tm; omega) z2 (.pointer (some ⟨b, 0, none⟩))
  have e3 : gt (a2.put (some (m + 2)) (.pointer (some ⟨b, 0, none⟩))) (m + 2) = .pointer (some ⟨b, 0, none⟩) := by rw [gt_put z2, if_pos rfl]
  have e3b : gt (a2.put (some (m + 2)) (.pointer (some ⟨b, 0, none⟩))) (m + 1) = v := by rw [gt_put z2, if_neg (by omega)]; exact e2
  generalize a2.put (some (m + 2)) (.pointer (some ⟨b, 0, none⟩)) = a3 at g3 e3 e3b
  refine wpC_val (runs_fieldAddr hf (p := ⟨b, 0, none⟩) e3) ?_
  rw [Addr.add_lit]
  have z3 : m + 3 < a3.tmps.size := by rw [g3.size]; omega
  have g4 := g3.put (d := m + 3) (by unfold Tm; omega) z3 (.pointer (some ⟨b, 0 + 0, none⟩))
  have e4 : gt (a3.put (some (m + 3)) (.pointer (some ⟨b, 0 + 0, none⟩))) (m + 3) = .pointer (some ⟨b, 0, none⟩) := by rw [gt_put z3, if_pos rfl]
  have e4b : gt (a3.put (some (m + 3)) (.pointer (some ⟨b, 0 + 0, none⟩))) (m + 1) = v := by rw [gt_put z3, if_neg (by omega)]; exact e3b
  generalize a3.put (some (m + 3)) (.pointer (some ⟨b, 0 + 0, none⟩)) = a4 at g4 e4 e4b
  have hb1 : Blk w1 b N := hb.keep (ho.block b hb.lt hbr)
  obtain ⟨w2, hrun, hw⟩ := runs_storeN (P := P) (a := a4) (u := i16) (x := .tmp (m + 3)) (y := .tmp (m + 1)) (b := b) (o := 0) (n := N) (v := v) e4 e4b (by obtain ⟨inf, hi, hz⟩ := hf.sz; exact ⟨inf, hi, hz.trans hv1.symm⟩) hv2 hb1 (by omega)
  have hl1 : v.cells.toList.length = 1 := by simpa using hv1
  have hu : Upd b 0 1 w w2 := by
    have h1 := hw.upd
    rw [hl1] at h1
    exact (Upd.same (ho.block b hb.lt hbr)).trans h1
  have hDl : D < w.heap.size := by have := hr.lt; obtain ⟨_, _, _, _, hd, _⟩ := hr; exact Nat.lt_trans hd this
  have kD : w2.heap[D]? = w1.heap[D]? := hw.only.block D (Nat.lt_of_lt_of_le hDl ho.size) (fun e => hbD e.symm)
  have kr : w2.heap[rb]? = w1.heap[rb]? := hw.only.block rb (Nat.lt_of_lt_of_le hr.lt ho.size) (fun e => hbr e.symm)
  have hOnly : Only (fun j => j = rb ∨ j = b) w w2 := (ho.mono fun _ _ h => .inl h).trans (hw.only.mono fun _ _ h => .inr h)
  refine wpC_skip hrun (wpC_nil ?_)
  have hcell : w2.cell? ⟨b, 0, none⟩ = some (.int .i16 n) := by
    subst hv
    simpa using hw.cells 0 (.int .i16 n) rfl
  rcases hc with ⟨h1, h2, h3, hr'⟩ | ⟨h1, h2, hr'⟩
  · refine h _ w2 n _ false true g4 hOnly hu hcell (by simp) (hr'.keep kD kr) (.inl ⟨h1, rfl, ?_⟩)
    simp only [primDec]
    rw [if_neg (by omega), if_neg (by decide), h3]
  · refine h _ w2 n [] true false g4 hOnly hu hcell (by simp) (hr'.keep kD kr) (.inr ⟨?_, rfl⟩)
    rcases h2 with h2 | h2
    · exact .inl h2
    · refine .inr ?_
      simp only [primDec]
      rw [if_pos h2]
end

def gTail (G : Gn) (m : Nat) (c : Code) : Code := .seq (reg [⟨some m, .call ⟨.value (.func G.co), #[.tmp G.rs], #[G.rt]⟩, none⟩, ⟨some 6, .assign (.tmp m), none⟩] (pc c [0])) .ret
def gAfter (G : Gn) (T i16 : Nat) (fx : Option Int) (r : R) (m : Nat) (c : Code) : Code :=
  match fx with
  | none => .seq (gCopy 0 9 m (pc c [0])) (gR G r T 9 10 (m + 1) (some (gTail G (m + 1 + r.t))) (pc c [1]))
  | some n => .seq (reg [⟨some m, .move (.tmp 8), none⟩, ⟨some (m + 1), .binOp .geq i16 (.tmp m) (.const (.int .i16 n)) i16, none⟩, ⟨some 9, .assign (.tmp (m + 1)), none⟩] (pc c [0]))
      (.seq (gMove 9 (m + 2) (pc c [1, 0])) (.seq (gCopy 0 10 (m + 3) (pc c [1, 1, 0])) (gR G r T 10 11 (m + 4) (some (gTail G (m + 4 + r.t))) (pc c [1, 1, 1]))))
def gRead (G : Gn) (T PT DF i16 M0 : Nat) (kept : Option Nat) (fx : Option Int) (r : R) (c : Code) : Code :=
  .seq (reg [⟨some 6, .assign (.const .nilIface), none⟩] (pc c [0])) (.seq (gDef DF PT M0 (pc c [1, 0])) (.seq (gRdr G.rt (M0 + 2) (pc c [1, 1, 0]))
    (match kept with
    | none => .seq (gLoad T 0 i16 0 8 (M0 + 4) (pc c [1, 1, 1, 0])) (.seq (gMove 8 (M0 + 8) (pc c [1, 1, 1, 1, 0])) (gAfter G T i16 fx r (M0 + 9) (pc c [1, 1, 1, 1, 1])))
    | some F => .seq (gKept G F T i16 (M0 + 4) (pc c [1, 1, 1, 0])) (.seq (gLoad T 0 i16 0 8 (M0 + 8) (pc c [1, 1, 1, 1, 0])) (.seq (gMove 8 (M0 + 12) (pc c [1, 1, 1, 1, 1, 0])) (gAfter G T i16 fx r (M0 + 13) (pc c [1, 1, 1, 1, 1, 1])))))))

section
variable {X : RX} {Q : Exit → Act → World → Prop}

theorem gTail_wp (hX : XOk X) {m : Nat} {c0 : Code} {a : Act} {w : World} {nn : Bool} {bs : List UInt8} {bad : Bool} (hst : St X a w nn bs bad) (h6 : 6 < m) (hN : m < X.N)
    (h : ∀ a' w', a'.defers = [] → IsErr bad (gt a' 6) → Only (fun _ => False) w w' → Q .ret a' w') : (gTail X.G m c0).wp X.P Q a w := by
  refine wp_seq (wp_reg (wpC_call (R := fun v w' => IsErr bad v ∧ Only (fun _ => False) w w') hX.co.1 (by rw [argRd hst]; exact hX.co.2 X.D X.rb w nn bs bad hst.inv hst.st) ?_))
  rintro v w2 ⟨hv, ho2⟩
  have z2 : m < a.tmps.size := by rw [hst.size]; omega
  have y1 : gt (a.put (some m) v) m = v := by rw [gt_put z2, if_pos rfl]
  refine wpC_val (runs_assign _) (wpC_nil (wp_ret ?_))
  rw [evT, y1]
  refine h _ w2 (by rw [defers_put, defers_put]; exact hst.defers) ?_ ho2
  have hM := hX.N0
  have h7 : 6 < X.N := by omega
  rw [gt_put (by rw [size_put, hst.size]; exact h7), if_pos rfl]
  exact hv

/-- What the fields and what stands behind them come to. -/
structure RetQ (X : RX) (mm : M) (b hi : Nat) (w : World) (bs : List UInt8) (bad : Bool) (Q : Exit → Act → World → Prop) : Prop where
  good : ∀ a' w' x bs', bad = false → dec mm.w bs = some (x, bs') → a'.defers = [] → gt a' 6 = .nilIface → Only (fun j => j = X.rb ∨ j = b) w w' → Upd b 1 hi w w' → (∃ h2, h2 ≤ w'.heap.size ∧ Holds X.D mm w' w.heap.size h2 b 0 x) → Q .ret a' w'
  bad : ∀ a' w', (bad = true ∨ dec mm.w bs = none) → a'.defers = [] → IsErr true (gt a' 6) → Only (fun j => j = X.rb ∨ j = b) w w' → Upd b 1 hi w w' → Q .ret a' w'

theorem fields_wp (hX : XOk X) (r : R) {T s k m b N hi : Nat} {c0 : Code} {a : Act} {w : World} {nn : Bool} {bs : List UInt8} {bad : Bool} (hr : r.ok X.P X.fx T 1 hi) (hA : At X r T s k m b 0 N 1 hi a w nn bs bad) (hN : m + r.t < X.N)
    (hQ : RetQ X (r.m X.ver X.flex) b hi w bs bad Q) : (gR X.G r T s k m (some (gTail X.G (m + r.t))) c0).wp X.P Q a w := by
  have hb := hA.blk
  have hnr := hA.nrb
  have hm6 : 6 < m + r.t := by have := hX.N0; have := hA.m0; omega
  refine R_reads hX r T s k m b 0 N 1 hi _ c0 a w nn bs bad hr hA Q ⟨?_, ?_, ?_⟩
  · intro a' w' x bs' nn' h1 h2 h3 h4 h5 h6 h7
    show ∀ c, (gTail X.G (m + r.t) c).wp X.P Q a' w'
    intro c
    refine gTail_wp hX h6 hm6 hN fun a2 w2 q1 q2 q3 => ?_
    have hbw : b < w'.heap.size := Nat.lt_of_lt_of_le hb.lt h4.size
    refine hQ.good a2 w2 x bs' h1 h2 q1 q2 (h4.trans (q3.none _)) ?_ ⟨w'.heap.size, q3.size, ?_⟩
    · simp only [Nat.zero_add] at h5
      exact h5.trans (Upd.same (q3.block b hbw id))
    · have hrl := h6.st.lt
      have hrb := h6.rb_gt
      exact h7.keep (q3.block _ (by omega) id) (fun k _ hk => q3.block _ (by omega) id) (fun j _ => World.cell?_of_block (w := w') (q3.block b hbw id))
  · intro a' w' h1 h3 h4 h5 h6
    show ∀ c, (gTail X.G (m + r.t) c).wp X.P Q a' w'
    intro c
    refine gTail_wp hX h6 hm6 hN fun a2 w2 q1 q2 q3 => ?_
    have hbw : b < w'.heap.size := Nat.lt_of_lt_of_le hb.lt h4.size
    simp only [Nat.zero_add] at h5
    exact hQ.bad a2 w2 h1 q1 q2 (h4.trans (q3.none _)) (h5.trans (Upd.same (q3.block b hbw id)))
  · intro a' w' h1 h2 h3 h4 h5
    simp only [Nat.zero_add] at h5
    exact hQ.bad a' w' h1 h2 h3 h4 h5

theorem gAfter_wp (hX : XOk X) {fx : Option Int} {r : R} {T i16 m b N hi : Nat} {c0 : Code} {a : Act} {w : World} {nn : Bool} {bs : List UInt8} {bad : Bool} (hrs : X.G.rs = 7) (hb9 : X.b9 = 9) (hfx : X.fx = fx.isSome) (hfl : ∀ n, fx = some n → X.flex = decide (X.ver ≥ n)) (hr : r.ok X.P X.fx T 1 hi)
    (hsz : a.tmps.size = X.N) (hdf : a.defers = []) (h0 : gt a 0 = .pointer (some ⟨b, 0, none⟩)) (h2 : gt a 2 = .bool false) (h7 : gt a 7 = .pointer (some ⟨X.rb, 0, none⟩)) (h8 : gt a 8 = .int .i16 X.ver)
    (hrd : Rd X.D X.rb w nn bs bad) (hl : bs.length ≤ lim) (hI : X.I w) (hb : Blk w b N) (hhi : hi ≤ N) (hnil : ∀ q ∈ r.nils, w.cell? ⟨b, q.1, none⟩ = some (nilV q.2)) (hbr : b ≠ X.rb) (hbD : X.L ≤ b ∧ b ≠ X.D) (hm : X.M0 ≤ m)
    (hM : X.M0 = (if fx.isSome then 11 else 10) + r.k) (hN : m + (if fx.isSome then 4 else 1) + r.t < X.N)
    (hQ : RetQ X (r.m X.ver X.flex) b hi w bs bad Q) : (gAfter X.G T i16 fx r m c0).wp X.P Q a w := by
  have hM0 := hX.N0
  cases fx with
  | none =>
    simp only [Option.isSome_none, Bool.false_eq_true, if_false] at hfx hM hN
    refine wp_seq (gCopy_wp (by omega) (by omega) fun a1 g1 v1 => ?_)
    have st : St X a1 w nn bs bad := ⟨g1.size.trans hsz, g1.defers.trans hdf, (g1.keep 2 (by omega)).trans h2, (by rw [hrs]; exact (g1.keep 7 (by omega)).trans h7), (g1.keep 8 (by omega)).trans h8, (fun h => by rw [hfx] at h; cases h), hrd, hl, hI⟩
    exact fields_wp hX r hr ⟨st, v1.trans h0, hb, by omega, fun q hq => by simpa using hnil q hq, hbr, hbD, by omega, by decide, by omega, by omega, by omega⟩ (by omega) hQ
  | some n =>
    simp only [Option.isSome_some, if_true] at hfx hM hN
    have z0 : m < a.tmps.size := by omega
    refine wp_seq (wp_reg (wpC_val (runs_move _) ?_))
    rw [evT, h8]
    have g1 := (Ag.refl (fun j => 9 ≤ j) a).put (d := m) (by omega) z0 (.int .i16 X.ver)
    have e1 : gt (a.put (some m) (.int .i16 X.ver)) m = .int .i16 X.ver := by rw [gt_put z0, if_pos rfl]
    generalize a.put (some m) (.int .i16 X.ver) = a1 at g1 e1
    have z1 : m + 1 < a1.tmps.size := by rw [g1.size]; omega
    refine wpC_val (runs_cmp .geq _ (.inr (.inl ⟨rfl, rfl⟩)) (k := .i16) (p := X.ver) (q := n) e1 rfl) ?_
    have g2 := g1.put (d := m + 1) (by omega) z1 (.bool (decide (X.ver ≥ n)))
    have e2 : gt (a1.put (some (m + 1)) (.bool (decide (X.ver ≥ n)))) (m + 1) = .bool (decide (X.ver ≥ n)) := by rw [gt_put z1, if_pos rfl]
    generalize a1.put (some (m + 1)) (.bool (decide (X.ver ≥ n))) = a2 at g2 e2
    refine wpC_val (runs_assign _) (wpC_nil ?_)
    rw [evT, e2]
    have z2 : 9 < a2.tmps.size := by rw [g2.size]; omega
    have g3 := g2.put (d := 9) (Nat.le_refl _) z2 (.bool (decide (X.ver ≥ n)))
    have e3 : gt (a2.put (some 9) (.bool (decide (X.ver ≥ n)))) 9 = .bool (decide (X.ver ≥ n)) := by rw [gt_put z2, if_pos rfl]
    generalize a2.put (some 9) (.bool (decide (X.ver ≥ n))) = a3 at g3 e3
    have z3 : m + 2 < a3.tmps.size := by rw [g3.size]; omega
    refine wp_seq (gMove_wp (X := X) z3 ?_)
    rw [e3]
    have g4 := g3.put (d := m + 2) (by omega) z3 (.bool (decide (X.ver ≥ n)))
    have e4 : gt (a3.put (some (m + 2)) (.bool (decide (X.ver ≥ n)))) 9 = .bool (decide (X.ver ≥ n)) := by rw [gt_put z3, if_neg (by omega)]; exact e3
    generalize a3.put (some (m + 2)) (.bool (decide (X.ver ≥ n))) = a4 at g4 e4
    have s4 : a4.tmps.size = X.N := g4.size.trans hsz
    refine wp_seq (gCopy_wp (by omega) (by omega) fun a5 g5 v5 => ?_)
    have k4 : ∀ j, j < 9 → gt a4 j = gt a j := fun j hj => g4.keep j (by omega)
    have k5 : ∀ j, j < 9 → gt a5 j = gt a j := fun j hj => (g5.keep j (by omega)).trans (k4 j hj)
    have st : St X a5 w nn bs bad := ⟨g5.size.trans s4, (g5.defers.trans g4.defers).trans hdf, (k5 2 (by decide)).trans h2, (by rw [hrs]; exact (k5 7 (by decide)).trans h7), (k5 8 (by decide)).trans h8, (fun _ => by rw [g5.keep 9 (by omega), e4, hfl n rfl]), hrd, hl, hI⟩
    exact fields_wp hX r hr ⟨st, v5.trans ((k4 0 (by decide)).trans h0), hb, by omega, fun q hq => by simpa using hnil q hq, hbr, hbD, by omega, by decide, by omega, by omega, by omega⟩ (by omega) hQ
end

def flexOf (fx : Option Int) (ver : Int) : Bool := match fx with | none => false | some n => decide (ver ≥ n)
def VerOf (kept : Option Nat) (ver0 : Int) (bs : List UInt8) (ver : Int) (bs0 : List UInt8) : Prop := match kept with | none => ver = ver0 ∧ bs0 = bs | some _ => primDec .i16 bs = some (.int ver, bs0)
/-- What the reading of a message comes to. -/
def ReadP (kept : Option Nat) (fx : Option Int) (r : R) (sz D b : Nat) (w : World) (bs : List UInt8) (ver0 : Int) (e : Ending) (w' : World) : Prop :=
  ∃ v, e = .returned v ∧ Only (· = b) w w' ∧ Blk w' b sz ∧
    ((∃ ver bs0 x bs' lo h2, VerOf kept ver0 bs ver bs0 ∧ dec (r.m ver (flexOf fx ver)).w bs0 = some (x, bs') ∧ v = .nilIface ∧ w'.cell? ⟨b, 0, none⟩ = some (.int .i16 ver) ∧ w.heap.size ≤ lo ∧ h2 ≤ w'.heap.size ∧ Holds D (r.m ver (flexOf fx ver)) w' lo h2 b 0 x) ∨
      ((∀ ver bs0, VerOf kept ver0 bs ver bs0 → dec (r.m ver (flexOf fx ver)).w bs0 = none) ∧ ∃ t u, v = .iface t u))

/-- What a message's reading rests on. -/
structure MsgR (P : Program) (G : Gn) (T PT DF i16 M0 NT sz hi : Nat) (kept : Option Nat) (fx : Option Int) (r : R) (I : World → Prop) : Prop where
  ok : OkC P G.ok
  co : CompC P G.co I
  i32 : P.underlying G.i32 = some (.int .i32)
  rs : G.rs = 7
  rt : RdrT P G.rt
  i16o : One P i16
  f0 : FieldAt P T 0 0 i16 1
  def_ : DefC P DF sz (0 :: r.nils.map (·.1))
  num : ∀ F, kept = some F → NumC P F .i16
  ro : r.ok P fx.isSome T 1 hi
  hio : hi ≤ sz
  szo : 1 ≤ sz
  nils : ∀ q ∈ r.nils, 1 ≤ q.1
  M : M0 = (if fx.isSome then 11 else 10) + r.k
  N : M0 + (if kept.isSome then 13 else 9) + (if fx.isSome then 4 else 1) + r.t < NT

theorem gt_app (xs ys : Array Value) (j : Nat) (v : Value) (h : xs[j]? = some v) : gt { tmps := xs ++ ys, defers := [] } j = v := by
  have hj : j < xs.size := (Array.getElem?_eq_some_iff.1 h).1
  simp only [gt, Array.getD_eq_getD_getElem?]
  rw [Array.getElem?_append_left hj, h]; rfl
/-- A MESSAGE's READING. -/
theorem readFrom_calls {P : Program} {G : Gn} {T PT DF i16 M0 NT sz hi : Nat} {kept : Option Nat} {fx : Option Int} {r : R} {I : World → Prop} (H : MsgR P G T PT DF i16 M0 NT sz hi kept fx r I) {F : Nat} {fn : Func} (hfn : P.funcs[F]? = some fn) (c0 : Code)
    (hbody : fn.body = some (gRead G T PT DF i16 M0 kept fx r c0)) (hres : fn.results = #[.tmp 6]) (hnt : fn.ntmps = NT)
    {w : World} {D b L : Nat} {nn : Bool} {A : Option Addr} {n c : Nat} {bs : List UInt8} {ver0 : Int} (hb : Blk w b sz) (hs : Sp w D nn (.slice A n c) bs) (hl : bs.length ≤ lim) (hDl : D < w.heap.size) (hbD : b ≠ D) (hL : L ≤ b) (hI : I w)
    (keep : ∀ w w', I w → Only (fun k => L ≤ k) w w' → I w') (hnil : ∀ q ∈ r.nils, w.cell? ⟨b, q.1, none⟩ = some (nilV q.2)) (hver : w.cell? ⟨b, 0, none⟩ = some (.int .i16 ver0)) :
    Calls P F #[.pointer (some ⟨b, 0, none⟩), .slice A n c, .bool false] w (ReadP kept fx r sz D b w bs ver0) := by
  refine calls_of_wp hfn hbody ?_
  have hN0 := H.N
  obtain ⟨fo, hfo⟩ : ∃ fo, (if fx.isSome then 4 else 1) = fo := ⟨_, rfl⟩
  rw [hfo] at hN0
  have hNT : M0 + 9 + fo + r.t < NT := by split at hN0 <;> omega
  have hfo1 : 1 ≤ fo := by rw [← hfo]; split <;> omega
  have hM0 : 10 ≤ M0 := by have := H.M; split at this <;> omega
  obtain ⟨a, ha⟩ : ∃ a : Act, a = { tmps := #[.pointer (some ⟨b, 0, none⟩), .slice A n c, .bool false] ++ Array.replicate (fn.ntmps - (#[.pointer (some ⟨b, 0, none⟩), .slice A n c, .bool false] : Array Value).size) undef, defers := [] } := ⟨_, rfl⟩
  rw [← ha]
  have asz : a.tmps.size = NT := by rw [ha]; simp [hnt]; omega
  have adf : a.defers = [] := by rw [ha]
  have a0 : gt a 0 = .pointer (some ⟨b, 0, none⟩) := by rw [ha]; exact gt_app _ _ 0 _ rfl
  have a1 : gt a 1 = .slice A n c := by rw [ha]; exact gt_app _ _ 1 _ rfl
  have a2 : gt a 2 = .bool false := by rw [ha]; exact gt_app _ _ 2 _ rfl
  clear ha
  have hbl := hb.lt
  refine wp_seq (gNil_wp (by omega) fun a3 g3 _ => ?_)
  have s3 : a3.tmps.size = NT := g3.size.trans asz
  refine wp_seq (gDef_wp H.def_ ((g3.keep 0 (by omega)).trans a0) hb (Nat.le_refl _) (by omega) (by omega) fun a4 w4 g4 o4 u4 n4 => ?_)
  have s4 : a4.tmps.size = NT := g4.size.trans s3
  have hb4 : Blk w4 b sz := u4.blk hb
  have kD4 : w4.heap[D]? = w.heap[D]? := o4.block D hDl (fun e => hbD e.symm)
  have f4 : ∀ j, j < 3 → gt a4 j = gt a j := fun j hj => (g4.keep j (by unfold Tm; omega)).trans (g3.keep j (by omega))
  refine wp_seq (gRdr_wp H.rt ((f4 1 (by decide)).trans a1) (by omega) (by omega) fun a5 w5 g5 p5 o5 z5 r5 => ?_)
  have s5 : a5.tmps.size = NT := g5.size.trans s4
  have hb5 : Blk w5 b sz := hb4.keep (o5.block b hb4.lt id)
  have kD5 : w5.heap[D]? = w.heap[D]? := (o5.block D (Nat.lt_of_lt_of_le hDl o4.size) id).trans kD4
  have o5' : Only (· = b) w w5 := o4.trans (o5.none _)
  have rd5 : Rd D w4.heap.size w5 nn bs false := ⟨_, _, r5, hs.keep kD5, Nat.lt_of_lt_of_le hDl o4.size, fun h => by cases h⟩
  have hbr : b ≠ w4.heap.size := by have := o4.size; omega
  have nil5 : ∀ q ∈ r.nils, w5.cell? ⟨b, q.1, none⟩ = some (nilV q.2) := fun q hq => (World.cell?_of_block (w := w4) (o5.block b hb4.lt id)).trans ((n4 q.1 (List.mem_cons_of_mem _ (List.mem_map_of_mem hq))).trans (hnil q hq))
  have ver5 : w5.cell? ⟨b, 0, none⟩ = some (.int .i16 ver0) := (World.cell?_of_block (w := w4) (o5.block b hb4.lt id)).trans ((n4 0 (by simp)).trans hver)
  have f5 : ∀ j, j < 3 → gt a5 j = gt a j := fun j hj => (g5.keep j (by omega)).trans (f4 j hj)
  have df5 : a5.defers = [] := g5.defers.trans (g4.defers.trans (g3.defers.trans adf))
  have hI5 : I w5 := keep w w5 hI (o5'.mono fun k _ hk => by show L ≤ k; have : k = b := hk; omega)
  -- from the version on
  have rest : ∀ (m : Nat) (c1 c2 : Code) (a6 : Act) (w6 : World) (ver : Int) (bs0 : List UInt8) (bad nn6 : Bool), M0 ≤ m → m + 5 + fo + r.t < NT → a6.tmps.size = NT → a6.defers = [] → (∀ j, j < 3 → gt a6 j = gt a j) → gt a6 7 = .pointer (some ⟨w4.heap.size, 0, none⟩) →
      Only (fun j => j = w4.heap.size ∨ j = b) w5 w6 → Blk w6 b sz → (∀ q ∈ r.nils, w6.cell? ⟨b, q.1, none⟩ = some (nilV q.2)) → w6.cell? ⟨b, 0, none⟩ = some (.int .i16 ver) → Rd D w4.heap.size w6 nn6 bs0 bad → bs0.length ≤ lim →
      ((bad = false ∧ VerOf kept ver0 bs ver bs0 ∧ ∀ ver' bs', VerOf kept ver0 bs ver' bs' → ver' = ver ∧ bs' = bs0) ∨ (bad = true ∧ ∀ ver' bs', ¬ VerOf kept ver0 bs ver' bs')) →
      ∀ c3 c4 c5, (Code.seq (gLoad T 0 i16 0 8 m c3) (.seq (gMove 8 (m + 4) c4) (gAfter G T i16 fx r (m + 5) c5))).wp P (bodyPost P fn (ReadP kept fx r sz D b w bs ver0)) a6 w6 := by
    intro m c1 c2 a6 w6 ver bs0 bad nn6 hm hmN s6 df6 f6 p6 o6 hb6 nil6 ver6 rd6 hl6 hv c3 c4 c5
    refine wp_seq (gLoad_wp (b := b) (off := 0) ((f6 0 (by decide)).trans a0) H.f0 H.i16o (by simpa using ver6) (by omega) (by omega) fun a7 g7 v7 => ?_)
    have s7 : a7.tmps.size = NT := g7.size.trans s6
    have z7 : m + 4 < a7.tmps.size := by omega
    have hLr : L ≤ w4.heap.size := by have := o4.size; omega
    let X : RX := { P := P, G := G, D := D, rb := w4.heap.size, ver := ver, fx := fx.isSome, flex := flexOf fx ver, N := NT, M0 := M0, I := I, L := L, lrb := hLr, b9 := 9, b9l := Nat.le_refl 9, rsl := (by have := H.rs; omega), keep := keep }
    refine wp_seq (gMove_wp (X := X) z7 ?_)
    have g8 := (Ag.refl (Tm m) a7).put (d := m + 4) (by unfold Tm; omega) z7 (gt a7 8)
    generalize a7.put (some (m + 4)) (gt a7 8) = a8 at g8
    have hX : XOk X := ⟨H.ok, H.co, H.i32, Nat.le_refl 9, hM0⟩
    have f8 : ∀ j, j < 8 → gt a8 j = gt a6 j := fun j hj => (g8.keep j (by unfold Tm; omega)).trans (g7.keep j (by omega))
    have hI6 : I w6 := keep w5 w6 hI5 (o6.mono fun k _ hk => by show L ≤ k; rcases hk with rfl | rfl <;> omega)
    have oAll : ∀ w', Only (fun j => j = w4.heap.size ∨ j = b) w6 w' → Only (· = b) w w' := fun w' h => by
      have h1 : Only (fun j => j = w4.heap.size ∨ j = b) w w' := (o5'.mono (T := fun j => j = w4.heap.size ∨ j = b) fun _ _ h => .inr h).trans (o6.trans h)
      exact h1.mono fun k hk h => by
        rcases h with rfl | h
        · exfalso; have := o4.size; omega
        · exact h
    refine gAfter_wp (X := X) hX (fx := fx) (N := sz) (hi := hi) (b := b) H.rs rfl rfl (fun n hn => by show flexOf fx ver = _; rw [hn]; rfl) H.ro (g8.size.trans s7) (g8.defers.trans (g7.defers.trans df6)) ((f8 0 (by decide)).trans ((f6 0 (by decide)).trans a0)) ((f8 2 (by decide)).trans ((f6 2 (by decide)).trans a2))
      ((f8 7 (by decide)).trans p6) ((g8.keep 8 (by unfold Tm; omega)).trans v7) rd6 hl6 hI6 hb6 H.hio nil6 hbr ⟨hL, hbD⟩ (by show M0 ≤ m + 5; omega) H.M (by show m + 5 + (if fx.isSome then 4 else 1) + r.t < NT; rw [hfo]; omega) ⟨?_, ?_⟩
    · intro a' w' x bs' h1 h2 h3 h4 h5 h6 h7
      refine bodyPost_ret (results_tmp hres _ _ _) h3 ?_
      have e6 : a'.tmps.getD 6 undef = .nilIface := h4
      rw [e6]
      have hb' : Blk w' b sz := h6.blk hb6
      refine ⟨_, rfl, oAll w' h5, hb', .inl ?_⟩
      rcases hv with ⟨_, hv1, _⟩ | ⟨hv1, _⟩
      · obtain ⟨h2', hle, hH⟩ := h7
        refine ⟨ver, bs0, x, bs', w6.heap.size, h2', hv1, h2, rfl, ?_, Nat.le_trans o5'.size o6.size, hle, hH⟩
        rw [h6.cell hb6 (.inl (by decide))]; exact ver6
      · rw [hv1] at h1; cases h1
    · intro a' w' h1 h3 h4 h5 h6
      refine bodyPost_ret (results_tmp hres _ _ _) h3 ?_
      have e6 : ∃ t u, a'.tmps.getD 6 undef = .iface t u := h4
      obtain ⟨t, u, e6⟩ := e6
      rw [e6]
      refine ⟨_, rfl, oAll w' h5, h6.blk hb6, .inr ⟨?_, t, u, rfl⟩⟩
      intro ver' bs' hv'
      rcases hv with ⟨hb0, _, hv1⟩ | ⟨_, hv1⟩
      · obtain ⟨rfl, rfl⟩ := hv1 ver' bs' hv'
        rcases h1 with h1 | h1
        · rw [hb0] at h1; cases h1
        · exact h1
      · exact absurd hv' (hv1 ver' bs')
  cases hk : kept with
  | none =>
    have := rest (M0 + 4) c0 c0 a5 w5 ver0 bs false nn (by omega) (by omega) s5 df5 f5 p5 (Only.refl _ _) hb5 nil5 ver5 rd5 hl (.inl ⟨rfl, by rw [hk]; exact ⟨rfl, rfl⟩, fun ver' bs' h => by rw [hk] at h; exact h⟩)
    rw [hk] at this
    exact this _ _ _
  | some F16 =>
    rw [hk] at hN0
    simp only [Option.isSome_some, if_true] at hN0
    refine wp_seq (gKept_wp (H.num F16 hk) H.f0 rd5 hl ((f5 0 (by decide)).trans a0) p5 hb5 H.szo hbr hbD (by omega) (by omega) fun a6 w6 nv bs' bad' nn' g6 o6 u6 c6 l6 rd6 hc => ?_)
    have nil6 : ∀ q ∈ r.nils, w6.cell? ⟨b, q.1, none⟩ = some (nilV q.2) := fun q hq => by rw [u6.cell hb5 (.inr (H.nils q hq))]; exact nil5 q hq
    have := rest (M0 + 8) c0 c0 a6 w6 nv bs' bad' nn' (by omega) (by omega) (g6.size.trans s5) (g6.defers.trans df5) (fun j hj => (g6.keep j (by unfold Tm; omega)).trans (f5 j hj)) ((g6.keep 7 (by unfold Tm; omega)).trans p5) o6 (u6.blk hb5) nil6 c6 rd6 (Nat.le_trans l6 hl) (by
      rcases hc with ⟨_, h2, h3⟩ | ⟨h1, h2⟩
      · refine .inl ⟨h2, by rw [hk]; exact h3, fun ver' bs'' h => ?_⟩
        rw [hk] at h
        have h : primDec .i16 bs = some (.int ver', bs'') := h
        rw [h3] at h
        injection h with h
        injection h with h4 h5
        injection h4 with h4
        exact ⟨h4.symm, h5.symm⟩
      · refine .inr ⟨h2, fun ver' bs'' h => ?_⟩
        rw [hk] at h
        have h : primDec .i16 bs = some (.int ver', bs'') := h
        rcases h1 with h1 | h1
        · cases h1
        · rw [h1] at h; cases h)
    rw [hk] at this
    exact this _ _ _
end Go.Proofs.YtpefipjgcpchaaaGreatDoorR.Kf
