/- Batches of records in this program: what is read of one. -/
import Derived.Test.YtcanhgcceagplaaDoorTbC
import Derived.Test.YtcanhgcceagplaaDoorKbN
import Derived.Test.YtcanhgcceagplaaDoorKbC
namespace Go.Proofs.YtcanhgcceagplaaDoor.Kf
set_option linter.unusedVariables false
set_option linter.unusedSimpArgs false
open Go Go.RowKit

theorem runs_sub {P : Program} {a : Act} {w : World} {t t2 : Nat} {x y : Operand} {k : IntKind} {p q : Int} (hx : a.eval x = .int k p) (hy : a.eval y = .int k q) : Runs P a w (.binOp .sub t x y t2) (.int k (k.wrap (p - q))) w := by
  intro o h
  simp [execOp, h, hx, hy, eqGuard_sub, binOp_sub, Op.intArith]

def gB : Nat := 1
theorem fRb (i u : Nat) (hs : (Tryd.prog.info? u).map (·.size) = some 1) (h : ∃ fs : Array Field, Tryd.prog.underlying 50 = some (.struct fs) ∧ ∃ f, fs[i]? = some f ∧ f.offset = i ∧ f.type = u) : FieldAt Tryd.prog 50 i i u 1 := ⟨h, info_of hs, by decide⟩
theorem risOk : rsOk Tryd.prog 50 ris 0 := by
  refine ⟨⟨by decide, rd_int64, fRb 0 _ sz_i64 ⟨_, Tryd.underlying50, _, rfl, rfl, rfl⟩⟩, ⟨by decide, rd_int32, fRb 1 _ sz_i32 ⟨_, Tryd.underlying50, _, rfl, rfl, rfl⟩⟩,
    ⟨by decide, rd_int32, fRb 2 _ sz_i32 ⟨_, Tryd.underlying50, _, rfl, rfl, rfl⟩⟩, ⟨by decide, rd_int8, fRb 3 _ sz_i8 ⟨_, Tryd.underlying50, _, rfl, rfl, rfl⟩⟩,
    ⟨by decide, rd_int32, fRb 4 _ sz_i32 ⟨_, Tryd.underlying50, _, rfl, rfl, rfl⟩⟩, ⟨by decide, rd_int16, fRb 5 _ sz_i16 ⟨_, Tryd.underlying50, _, rfl, rfl, rfl⟩⟩,
    ⟨by decide, rd_int32, fRb 6 _ sz_i32 ⟨_, Tryd.underlying50, _, rfl, rfl, rfl⟩⟩, ⟨by decide, rd_int64, fRb 7 _ sz_i64 ⟨_, Tryd.underlying50, _, rfl, rfl, rfl⟩⟩,
    ⟨by decide, rd_int64, fRb 8 _ sz_i64 ⟨_, Tryd.underlying50, _, rfl, rfl, rfl⟩⟩, ⟨by decide, rd_int64, fRb 9 _ sz_i64 ⟨_, Tryd.underlying50, _, rfl, rfl, rfl⟩⟩,
    ⟨by decide, rd_int16, fRb 10 _ sz_i16 ⟨_, Tryd.underlying50, _, rfl, rfl, rfl⟩⟩, ⟨by decide, rd_int32, fRb 11 _ sz_i32 ⟨_, Tryd.underlying50, _, rfl, rfl, rfl⟩⟩,
    ⟨by decide, rd_int32, fRb 12 _ sz_i32 ⟨_, Tryd.underlying50, _, rfl, rfl, rfl⟩⟩, trivial⟩
theorem rdrT' : RdrT Tryd.prog 76 := ⟨fun A n c w => by kernel_rfl, fun o a w h => by
    obtain ⟨d, op, t, p, af, g⟩ := o
    simp only at h
    subst h
    kernel_rfl, info_of (by kernel_rfl)⟩

noncomputable def bR34 : Code := (Tryd.f34.body).getD .skip
def gEndR (c : Code) : Code := .seq (.seq (reg [⟨some 93, .move (.tmp 8), none⟩, ⟨some 94, .nilCheck (.tmp 93), none⟩, ⟨some 95, .fieldAddr 50 (.tmp 94) 1, none⟩, ⟨some 96, .load 21 (.tmp 95), none⟩, ⟨some 97, .convert 21 3 (.tmp 96), none⟩,
    ⟨some 98, .binOp .sub 3 (.tmp 97) (.const (.int .i64 49)) 3, none⟩, ⟨some 99, .call ⟨.value (.func 43), #[.tmp 7, .tmp 98], #[76, 3]⟩, none⟩, ⟨some 22, .assign (.tmp 99), none⟩] (pc c [0, 0]))
  (sinkF 50 13 24 8 22 100 (pc c [0, 1]))) (.seq (reg [⟨some 104, .call ⟨.value (.func 44), #[.tmp 7], #[76]⟩, none⟩, ⟨some 6, .assign (.tmp 104), none⟩] (pc c [1, 0])) .ret)
noncomputable def codeR34 : Code := .seq (reg [⟨some 6, .assign (.const .nilIface), none⟩] (pc bR34 [0])) (.seq (gDef 38 69 23 (pc bR34 [1, 0])) (.seq (gRdr 76 25 (pc bR34 [1, 1, 0])) (.seq (gCopy 0 8 27 (pc bR34 [1, 1, 1, 0]))
  (gRs 76 50 ris 0 9 28 gEndR (pc bR34 [1, 1, 1, 1])))))
theorem code34 : Tryd.f34.body = some codeR34 := by kernel_rfl

/-- What the reading of a batch of which s has been cut off comes to. -/
def RfP (D b : Nat) (bt : Bt) (s : List UInt8) (w : World) (e : Ending) (w' : World) : Prop :=
  ∃ v, e = .returned v ∧ Only (· = b) w w' ∧ (s = [] → v = .nilIface ∧ ∃ vr nn, (∀ j u, (bt.cells vr)[j]? = some u → w'.cell? ⟨b, j, none⟩ = some u) ∧ Sp w' D nn vr bt.rs) ∧ (s ≠ [] → ∃ t u, v = .iface t u)

theorem errI_only {w w' : World} {S : Nat → Prop} (h : ErrI w) (ho : Only S w w') (hS : ¬ S gB) : ErrI w' := by
  obtain ⟨t, u, h⟩ := h
  have hlt : gB < w.heap.size := World.block_lt_of_cell? w _ h
  exact ⟨t, u, (World.cell?_of_block (w := w) (ho.block gB hlt hS)).trans h⟩

set_option maxRecDepth 100000 in
theorem rf_calls {w : World} {D b : Nat} {nn : Bool} {A : Option Addr} {n c : Nat} {bs s : List UInt8} {bt : Bt} (hb : Blk w b 14) (hs : Sp w D nn (.slice A n c) bs) (hbs : bs ++ s = bt.out) (hok : bt.ok) (hn1 : bt.n1 = 49 + bt.rs.length) (hl : bt.rs.length ≤ 200000) (hDl : D < w.heap.size) (hbD : b ≠ D) (hI : ErrI w) (hbg : b ≠ gB) :
    Calls Tryd.prog 34 #[.pointer (some ⟨b, 0, none⟩), .slice A n c, .bool false] w (RfP D b bt s w) := by
  refine calls_of_wp Tryd.func34 code34 ?_
  have hbl := hb.lt
  have hlen : bs.length ≤ 300000 := by have := congrArg List.length hbs; rw [List.length_append, bt.out_len] at this; omega
  obtain ⟨a, ha⟩ : ∃ a : Act, a = { tmps := #[.pointer (some ⟨b, 0, none⟩), .slice A n c, .bool false] ++ Array.replicate (Tryd.f34.ntmps - (#[.pointer (some ⟨b, 0, none⟩), .slice A n c, .bool false] : Array Value).size) undef, defers := [] } := ⟨_, rfl⟩
  rw [← ha]
  have asz : a.tmps.size = 105 := by rw [ha]; simp [Tryd.ntmps34]
  have adf : a.defers = [] := by rw [ha]
  have a0 : gt a 0 = .pointer (some ⟨b, 0, none⟩) := by rw [ha]; exact gt_app _ _ 0 _ rfl
  have a1 : gt a 1 = .slice A n c := by rw [ha]; exact gt_app _ _ 1 _ rfl
  clear ha
  refine wp_seq (gNil_wp (by omega) fun a3 g3 _ => ?_)
  have s3 : a3.tmps.size = 105 := g3.size.trans asz
  refine wp_seq (gDef_wp (sz := 14) (ks := []) (N := 14) (def_skip Tryd.func38 rfl rfl rfl) ((g3.keep 0 (by omega)).trans a0) hb (Nat.le_refl _) (by omega) (by omega) fun a4 w4 g4 o4 u4 _ => ?_)
  have s4 : a4.tmps.size = 105 := g4.size.trans s3
  have hb4 : Blk w4 b 14 := u4.blk hb
  have kD4 : w4.heap[D]? = w.heap[D]? := o4.block D hDl (fun e => hbD e.symm)
  have f4 : ∀ j, j < 3 → gt a4 j = gt a j := fun j hj => (g4.keep j (by unfold Tm; omega)).trans (g3.keep j (by omega))
  refine wp_seq (gRdr_wp rdrT' ((f4 1 (by decide)).trans a1) (by omega) (by omega) fun a5 w5 g5 p5 o5 z5 r5 => ?_)
  have s5 : a5.tmps.size = 105 := g5.size.trans s4
  have hb5 : Blk w5 b 14 := hb4.keep (o5.block b hb4.lt id)
  have kD5 : w5.heap[D]? = w.heap[D]? := (o5.block D (Nat.lt_of_lt_of_le hDl o4.size) id).trans kD4
  have o5' : Only (· = b) w w5 := o4.trans (o5.none _)
  have rd5 : Rd D w4.heap.size w5 nn bs false := ⟨_, _, r5, hs.keep kD5, Nat.lt_of_lt_of_le hDl o4.size, fun h => by cases h⟩
  have hbr : b ≠ w4.heap.size := by have := o4.size; omega
  have hI5 : ErrI w5 := errI_only hI o5' (fun e => hbg e.symm)
  have hg5 : gB < w4.heap.size := by
    obtain ⟨t, u, h⟩ := hI
    exact Nat.lt_of_lt_of_le (World.block_lt_of_cell? w _ h) o4.size
  refine wp_seq (gCopy_wp (by omega) (by omega) fun a6 g6 v6 => ?_)
  have s6 : a6.tmps.size = 105 := g6.size.trans s5
  have st6 : FR D w4.heap.size b 14 105 a6 w5 nn bs false := ⟨s6, g6.defers.trans (g5.defers.trans (g4.defers.trans (g3.defers.trans adf))), (g6.keep 7 (by omega)).trans p5, v6.trans ((g5.keep 0 (by omega)).trans ((f4 0 (by decide)).trans a0)), rd5, hb5, by unfold lim; omega, hbr, hbD⟩
  refine gRs_wp ris bt.all 0 9 28 _ a6 w5 nn bs false risOk hok.v st6 (.inl ⟨rfl, by rw [hbs, bt.out_eq]⟩) (by decide) (by decide) (by decide) (by decide) fun c7 a7 w7 nn7 bs7 bad7 st7 hJ7 o7 u7 hc7 hb7 => ?_
  -- the records
  obtain ⟨z1, hz1, hzz, hzb⟩ : ∃ z', w7.cell? ⟨b, 1, none⟩ = some (.int .i32 z') ∧ (z' = bt.n1 ∨ z' = 0) ∧ (bad7 = false → z' = bt.n1) := hc7.2.1
  have s7 := st7.size
  have hz : z1 - 49 = bt.rs.length ∨ z1 - 49 = -49 := by rcases hzz with h | h <;> omega
  have hI7 : ErrI w7 := errI_only hI5 o7 (by rintro (h | h); (have : gB = w4.heap.size := h; omega); (exact hbg h.symm))
  unfold gEndR
  refine wp_seq (wp_seq (wp_reg (wpC_val (runs_move _) ?_)))
  rw [evT, st7.s8]
  have y0 : 93 < a7.tmps.size := by omega
  have k1 := (Ag.refl (fun j => j = 22 ∨ 93 ≤ j) a7).put (d := 93) (by omega) y0 (.pointer (some ⟨b, 0, none⟩))
  have q1 : gt (a7.put (some 93) (.pointer (some ⟨b, 0, none⟩))) 93 = .pointer (some ⟨b, 0, none⟩) := by rw [gt_put y0, if_pos rfl]
  generalize a7.put (some 93) (.pointer (some ⟨b, 0, none⟩)) = b1 at k1 q1
  refine wpC_val (runs_nilCheck (p := ⟨b, 0, none⟩) q1) ?_
  have y1 : 94 < b1.tmps.size := by rw [k1.size]; omega
  have k2 := k1.put (d := 94) (by omega) y1 (.pointer (some ⟨b, 0, none⟩))
  have q2 : gt (b1.put (some 94) (.pointer (some ⟨b, 0, none⟩))) 94 = .pointer (some ⟨b, 0, none⟩) := by rw [gt_put y1, if_pos rfl]
  generalize b1.put (some 94) (.pointer (some ⟨b, 0, none⟩)) = b2 at k2 q2
  refine wpC_val (runs_fieldAddr (risOk.2.1.2.2) (p := ⟨b, 0, none⟩) q2) ?_
  rw [Addr.add_lit]
  have y2 : 95 < b2.tmps.size := by rw [k2.size]; omega
  have k3 := k2.put (d := 95) (by omega) y2 (.pointer (some ⟨b, 0 + 1, none⟩))
  have q3 : gt (b2.put (some 95) (.pointer (some ⟨b, 0 + 1, none⟩))) 95 = .pointer (some ⟨b, 1, none⟩) := by rw [gt_put y2, if_pos rfl]
  generalize b2.put (some 95) (.pointer (some ⟨b, 0 + 1, none⟩)) = b3 at k3 q3
  refine wpC_val (runs_load o_i32 q3 hz1) ?_
  have y3 : 96 < b3.tmps.size := by rw [k3.size]; omega
  have k4 := k3.put (d := 96) (by omega) y3 (.int .i32 z1)
  have q4 : gt (b3.put (some 96) (.int .i32 z1)) 96 = .int .i32 z1 := by rw [gt_put y3, if_pos rfl]
  generalize b3.put (some 96) (.int .i32 z1) = b4 at k4 q4
  refine wpC_val (runs_conv Tryd.underlying21 Tryd.underlying3 q4) ?_
  rw [IntWalk.i64_in z1 (by omega)]
  have y4 : 97 < b4.tmps.size := by rw [k4.size]; omega
  have k5 := k4.put (d := 97) (by omega) y4 (.int .i64 z1)
  have q5 : gt (b4.put (some 97) (.int .i64 z1)) 97 = .int .i64 z1 := by rw [gt_put y4, if_pos rfl]
  generalize b4.put (some 97) (.int .i64 z1) = b5 at k5 q5
  refine wpC_val (runs_sub (k := .i64) (p := z1) (q := 49) q5 rfl) ?_
  rw [IntWalk.i64_in (z1 - 49) (by omega)]
  have y5 : 98 < b5.tmps.size := by rw [k5.size]; omega
  have k6 := k5.put (d := 98) (by omega) y5 (.int .i64 (z1 - 49))
  have q6 : gt (b5.put (some 98) (.int .i64 (z1 - 49))) 98 = .int .i64 (z1 - 49) := by rw [gt_put y5, if_pos rfl]
  generalize b5.put (some 98) (.int .i64 (z1 - 49)) = b6 at k6 q6
  have q67 : gt b6 7 = .pointer (some ⟨w4.heap.size, 0, none⟩) := (k6.keep 7 (by omega)).trans st7.r7
  refine wpC_call (R := fun v w' => Only (· = w4.heap.size) w7 w' ∧ ((0 ≤ z1 - 49 ∧ z1 - 49 ≤ bs7.length ∧ Sp w' D nn7 v (bs7.take (z1 - 49).toNat) ∧ Rd D w4.heap.size w' nn7 (bs7.drop (z1 - 49).toNat) bad7) ∨ ((z1 - 49 < 0 ∨ (bs7.length : Int) < z1 - 49) ∧ v = .slice none 0 0 ∧ Rd D w4.heap.size w' false [] true))) rd_span.1
    (by rw [args2 q67 q6]; exact rd_span.2 D w4.heap.size w7 nn7 bs7 bad7 (z1 - 49) st7.rd st7.lim (by omega) (by omega)) ?_
  rintro v8 w8 ⟨o8, hc8⟩
  have hv8 : v8.cells = #[v8] ∧ v8.oneCell' = true := by
    rcases hc8 with ⟨_, _, h, _⟩ | ⟨_, h, _⟩
    · obtain ⟨A', c', h, _⟩ := h.len
      subst h; exact ⟨rfl, rfl⟩
    · subst h; exact ⟨rfl, rfl⟩
  have y6 : 99 < b6.tmps.size := by rw [k6.size]; omega
  have k7 := k6.put (d := 99) (by omega) y6 v8
  have q7 : gt (b6.put (some 99) v8) 99 = v8 := by rw [gt_put y6, if_pos rfl]
  generalize b6.put (some 99) v8 = b7 at k7 q7
  refine wpC_val (runs_assign _) (wpC_nil ?_)
  rw [evT, q7]
  have y7 : 22 < b7.tmps.size := by rw [k7.size]; omega
  have k8 := k7.put (d := 22) (by omega) y7 v8
  have q8 : gt (b7.put (some 22) v8) 22 = v8 := by rw [gt_put y7, if_pos rfl]
  generalize b7.put (some 22) v8 = b8 at k8 q8
  have hb7b : Blk w7 b 14 := st7.blk
  have hb8 : Blk w8 b 14 := hb7b.keep (o8.block b hb7b.lt hbr)
  show (sinkF _ _ _ _ _ _ _).wp _ _ b8 w8
  refine (sinkF_wp (n := 1) (N := 14) (b := b) (off := 0) (v := v8) ((k8.keep 8 (by omega)).trans st7.s8) q8 (fRb 13 _ sz_sl ⟨_, Tryd.underlying50, _, rfl, rfl, rfl⟩) (by rw [hv8.1]; rfl) (by rw [hv8.1]; intro c hc; simp at hc; subst hc; exact hv8.2) hb8 (by omega) (by omega) (by omega) (by rw [k8.size]; omega) fun b9 w9 g9 wr9 => ?_)
  have hlen9 : v8.cells.toList = [v8] := by rw [hv8.1]
  have hrl := st7.rd.lt
  have hl8 := o8.size
  have hDr : D < w4.heap.size := Nat.lt_of_lt_of_le hDl o4.size
  have kD9 : w9.heap[D]? = w8.heap[D]? := wr9.only.block _ (by omega) (fun e => hbD e.symm)
  have kr9 : w9.heap[w4.heap.size]? = w8.heap[w4.heap.size]? := wr9.only.block _ (by omega) (fun e => hbr e.symm)
  have hI9 : ErrI w9 := errI_only (errI_only hI7 o8 (by show ¬ gB = w4.heap.size; omega)) wr9.only (by show ¬ gB = b; exact fun e => hbg e.symm)
  have u9 := wr9.upd
  rw [hlen9] at u9
  have c13 : w9.cell? ⟨b, 13, none⟩ = some v8 := by
    have := wr9.cells 0 v8 (by rw [hlen9]; rfl)
    simpa using this
  have q97 : gt b9 7 = .pointer (some ⟨w4.heap.size, 0, none⟩) := (g9.keep 7 (by unfold Tm; omega)).trans ((k8.keep 7 (by omega)).trans st7.r7)
  have oAll : Only (· = b) w w9 := by
    have h1 : Only (fun j => j = w4.heap.size ∨ j = b) w w9 := (o5'.mono (T := fun j => j = w4.heap.size ∨ j = b) fun _ _ h => .inr h).trans (o7.trans ((o8.mono (T := fun j => j = w4.heap.size ∨ j = b) fun _ _ h => .inl h).trans (wr9.only.mono fun _ _ h => .inr h)))
    exact h1.mono fun k hk h => by
      rcases h with rfl | h
      · exfalso; have := o4.size; omega
      · exact h
  -- the end
  have fin : ∀ nn' bs' bad', Rd D w4.heap.size w9 nn' bs' bad' → (s = [] → bad' = false ∧ ∃ nn, Sp w9 D nn v8 bt.rs) → (s ≠ [] → bad' = true) → (s = [] → ∀ j u, (bt.cells v8)[j]? = some u → w9.cell? ⟨b, j, none⟩ = some u) →
      (Code.seq (reg [⟨some 104, .call ⟨.value (.func 44), #[.tmp 7], #[76]⟩, none⟩, ⟨some 6, .assign (.tmp 104), none⟩] (pc c7 [1, 0])) .ret).wp Tryd.prog (bodyPost Tryd.prog Tryd.f34 (RfP D b bt s w)) b9 w9 := by
    intro nn' bs' bad' hr hg hbd hcs
    refine wp_seq (wp_reg (wpC_call (R := fun v w' => IsErr bad' v ∧ Only (fun _ => False) w9 w') rd_complete.1 (by rw [args1 q97]; exact rd_complete.2 D w4.heap.size w9 nn' bs' bad' hI9 hr) ?_))
    rintro v10 w10 ⟨he, o10⟩
    have s9 : b9.tmps.size = 105 := g9.size.trans (k8.size.trans s7)
    have x0 : 104 < b9.tmps.size := by omega
    have m1 : gt (b9.put (some 104) v10) 104 = v10 := by rw [gt_put x0, if_pos rfl]
    refine wpC_val (runs_assign _) (wpC_nil (wp_ret ?_))
    rw [evT, m1]
    refine bodyPost_ret (results_tmp Tryd.results34 _ _ _) (by rw [defers_put, defers_put]; exact g9.defers.trans (k8.defers.trans st7.defers)) ?_
    have e6 : ((b9.put (some 104) v10).put (some 6) v10).tmps.getD 6 undef = v10 := by
      show gt _ 6 = v10
      rw [gt_put (by rw [size_put]; omega), if_pos rfl]
    rw [e6]
    have hbw : b < w9.heap.size := Nat.lt_of_lt_of_le hbl oAll.size
    refine ⟨v10, rfl, oAll.trans (o10.none _), fun hse => ?_, fun hse => ?_⟩
    · obtain ⟨hb', nn2, hsp⟩ := hg hse
      rw [hb'] at he
      refine ⟨he, v8, nn2, fun j u hj => (World.cell?_of_block (w := w9) (o10.block b hbw id)).trans (hcs hse j u hj), hsp.keep (o10.block D (Nat.lt_of_lt_of_le hDl oAll.size) id)⟩
    · have hb' := hbd hse
      rw [hb'] at he
      exact he
  have hcells : bad7 = false → ∀ j u, (bt.cells v8)[j]? = some u → w9.cell? ⟨b, j, none⟩ = some u := by
    intro hb0 j u hj
    have hj14 : j < 14 := by have := (Array.getElem?_eq_some_iff.1 hj).1; simpa [Bt.cells] using this
    have low : ∀ j, j < 13 → w9.cell? ⟨b, j, none⟩ = w7.cell? ⟨b, j, none⟩ := fun j hj => (u9.cell hb8 (.inl (by omega))).trans (World.cell?_of_block (w := w7) (o8.block b hb7b.lt hbr))
    obtain ⟨⟨y0, d0, _, f0⟩, ⟨y1, d1, _, f1⟩, ⟨y2, d2, _, f2⟩, ⟨y3, d3, _, f3⟩, ⟨y4, d4, _, f4⟩, ⟨y5, d5, _, f5⟩, ⟨y6, d6, _, f6⟩, ⟨y7, d7, _, f7⟩, ⟨y8, d8, _, f8⟩, ⟨y9, d9, _, f9⟩, ⟨y10, d10, _, f10⟩, ⟨y11, d11, _, f11⟩, ⟨y12, d12, _, f12⟩, _⟩ := hc7
    simp only [hb0, forall_const] at f0 f1 f2 f3 f4 f5 f6 f7 f8 f9 f10 f11 f12
    subst f0 f1 f2 f3 f4 f5 f6 f7 f8 f9 f10 f11 f12
    match j, hj14, hj with
    | 0, _, hj => rw [low 0 (by omega)]; simp [Bt.cells] at hj; subst hj; exact d0
    | 1, _, hj => rw [low 1 (by omega)]; simp [Bt.cells] at hj; subst hj; exact d1
    | 2, _, hj => rw [low 2 (by omega)]; simp [Bt.cells] at hj; subst hj; exact d2
    | 3, _, hj => rw [low 3 (by omega)]; simp [Bt.cells] at hj; subst hj; exact d3
    | 4, _, hj => rw [low 4 (by omega)]; simp [Bt.cells] at hj; subst hj; exact d4
    | 5, _, hj => rw [low 5 (by omega)]; simp [Bt.cells] at hj; subst hj; exact d5
    | 6, _, hj => rw [low 6 (by omega)]; simp [Bt.cells] at hj; subst hj; exact d6
    | 7, _, hj => rw [low 7 (by omega)]; simp [Bt.cells] at hj; subst hj; exact d7
    | 8, _, hj => rw [low 8 (by omega)]; simp [Bt.cells] at hj; subst hj; exact d8
    | 9, _, hj => rw [low 9 (by omega)]; simp [Bt.cells] at hj; subst hj; exact d9
    | 10, _, hj => rw [low 10 (by omega)]; simp [Bt.cells] at hj; subst hj; exact d10
    | 11, _, hj => rw [low 11 (by omega)]; simp [Bt.cells] at hj; subst hj; exact d11
    | 12, _, hj => rw [low 12 (by omega)]; simp [Bt.cells] at hj; subst hj; exact d12
    | 13, _, hj => simp [Bt.cells] at hj; subst hj; exact c13
  rcases hc8 with ⟨hp0, hp1, hsp, hr8⟩ | ⟨hp, rfl, hr8⟩
  · have hz2 : z1 - 49 = bt.rs.length := by omega
    refine fin nn7 _ bad7 (hr8.keep kD9 kr9) (fun hse => ?_) (fun hse => ?_) fun hse => hcells ?_
    · rcases hJ7 with ⟨hb0, hj⟩ | ⟨_, hne⟩
      · subst hse
        rw [List.append_nil] at hj
        refine ⟨hb0, nn7, ?_⟩
        have := hsp.keep kD9
        rw [hz2, Int.toNat_natCast, hj, List.take_length] at this
        exact this
      · exact absurd hse hne
    · rcases hJ7 with ⟨hb0, hj⟩ | ⟨hb0, _⟩
      · exfalso
        have := congrArg List.length hj
        rw [List.length_append] at this
        have : 0 < s.length := List.length_pos_iff.2 hse
        omega
      · exact hb0
    · rcases hJ7 with ⟨hb0, hj⟩ | ⟨_, hne⟩
      · exact hb0
      · exact absurd hse hne
  · refine fin false [] true (hr8.keep kD9 kr9) (fun hse => ?_) (fun _ => rfl) fun hse => ?_
    · exfalso
      rcases hJ7 with ⟨hb0, hj⟩ | ⟨_, hne⟩
      · have hz2 := hzb hb0
        subst hse
        rw [List.append_nil] at hj
        subst hj
        rcases hp with hp | hp <;> omega
      · exact hne hse
    · rcases hJ7 with ⟨hb0, hj⟩ | ⟨_, hne⟩
      · exact hcells hb0
      · exact absurd hse hne
end Go.Proofs.YtcanhgcceagplaaDoor.Kf
