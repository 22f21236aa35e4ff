/- Batches of records in this program: what the reference writes of one. -/
import Derived.Test.YtcanhgcceagplaaDoorTbB
import Derived.Test.YtcanhgcceagplaaDoorSpN
import Derived.Test.YtcanhgcceagplaaDoorLawA
import Derived.Deep.RegionHeld3
namespace Go.Proofs.YtcanhgcceagplaaDoor.Kf
set_option linter.unusedVariables false
set_option linter.unusedSimpArgs false
open Go Go.RowKit

/-- A batch. -/
structure Bt where
  n0 : Int
  n1 : Int
  n2 : Int
  n3 : Int
  n4 : Int
  n5 : Int
  n6 : Int
  n7 : Int
  n8 : Int
  n9 : Int
  n10 : Int
  n11 : Int
  n12 : Int
  rs : List UInt8
def Bt.cells (b : Bt) (v : Value) : Array Value := #[.int .i64 b.n0, .int .i32 b.n1, .int .i32 b.n2, .int .i8 b.n3, .int .i32 b.n4, .int .i16 b.n5, .int .i32 b.n6, .int .i64 b.n7, .int .i64 b.n8, .int .i64 b.n9, .int .i16 b.n10, .int .i32 b.n11, .int .i32 b.n12, v]
def Bt.all (b : Bt) : List Int := [b.n0, b.n1, b.n2, b.n3, b.n4, b.n5, b.n6, b.n7, b.n8, b.n9, b.n10, b.n11, b.n12]
def Bt.rest (b : Bt) : List Int := [b.n2, b.n3, b.n4, b.n5, b.n6, b.n7, b.n8, b.n9, b.n10, b.n11, b.n12]
def bis : List BI := [⟨21, .i32, 4, 1⟩, ⟨22, .i8, 1, 2⟩, ⟨21, .i32, 4, 1⟩, ⟨23, .i16, 2, 1⟩, ⟨21, .i32, 4, 1⟩, ⟨2, .i64, 8, 0⟩, ⟨2, .i64, 8, 0⟩, ⟨2, .i64, 8, 0⟩, ⟨23, .i16, 2, 1⟩, ⟨21, .i32, 4, 1⟩, ⟨21, .i32, 4, 1⟩]
def ris : List RI := [⟨.i64, 39, 2⟩, ⟨.i32, 40, 21⟩, ⟨.i32, 40, 21⟩, ⟨.i8, 41, 22⟩, ⟨.i32, 40, 21⟩, ⟨.i16, 42, 23⟩, ⟨.i32, 40, 21⟩,
  ⟨.i64, 39, 2⟩, ⟨.i64, 39, 2⟩, ⟨.i64, 39, 2⟩, ⟨.i16, 42, 23⟩, ⟨.i32, 40, 21⟩, ⟨.i32, 40, 21⟩]
/-- Its octets. -/
def Bt.out (b : Bt) : List UInt8 := (beEnc 8 b.n0 ++ beEnc 4 b.n1) ++ bsB bis b.rest ++ b.rs
theorem Bt.out_eq (b : Bt) : b.out = rsB ris b.all b.rs := by
  simp only [Bt.out, bis, ris, Bt.rest, Bt.all, bsB, rsB, Prim.n, List.append_assoc, List.append_nil]
structure Bt.ok (b : Bt) : Prop where
  v : rsV ris b.all
theorem Bt.out_len (b : Bt) : b.out.length = 61 + b.rs.length := by
  simp only [Bt.out, bis, Bt.rest, bsB, List.length_append, beEnc_length, List.length_nil]

theorem oct24 : OctT Tryd.prog 24 5 := ⟨Tryd.underlying24, info_u8⟩
theorem fixC : FixC Tryd.prog 5 22 := ⟨plain_g Tryd.func22 rfl rfl, fun w n size h0 h1 hs => sp_fixed w n size h0 h1 hs⟩
theorem sz_i64 : (Tryd.prog.info? 2).map (·.size) = some 1 := by kernel_rfl
theorem sz_i32 : (Tryd.prog.info? 21).map (·.size) = some 1 := by kernel_rfl
theorem sz_i16 : (Tryd.prog.info? 23).map (·.size) = some 1 := by kernel_rfl
theorem sz_i8 : (Tryd.prog.info? 22).map (·.size) = some 1 := by kernel_rfl
theorem sz_sl : (Tryd.prog.info? 24).map (·.size) = some 1 := by kernel_rfl
theorem o_i64 : One Tryd.prog 2 := one_of Tryd.underlying2 rfl sz_i64
theorem o_i32 : One Tryd.prog 21 := one_of Tryd.underlying21 rfl sz_i32
theorem o_i16 : One Tryd.prog 23 := one_of Tryd.underlying23 rfl sz_i16
theorem o_i8 : One Tryd.prog 22 := one_of Tryd.underlying22 rfl sz_i8
theorem o_sl : One Tryd.prog 24 := one_of Tryd.underlying24 rfl sz_sl
theorem fBt (i u : Nat) (hs : (Tryd.prog.info? u).map (·.size) = some 1) (h : ∃ fs : Array Field, Tryd.prog.underlying 26 = some (.struct fs) ∧ ∃ f, fs[i]? = some f ∧ f.offset = i ∧ f.type = u) : FieldAt Tryd.prog 26 i i u 1 := ⟨h, info_of hs, by decide⟩
theorem bisOk : bsOk Tryd.prog 26 bis 2 := by
  refine ⟨⟨fBt 2 _ sz_i32 ⟨_, Tryd.underlying26, _, rfl, rfl, rfl⟩, o_i32, Tryd.underlying21, by decide, by decide, by decide⟩,
    ⟨fBt 3 _ sz_i8 ⟨_, Tryd.underlying26, _, rfl, rfl, rfl⟩, o_i8, Tryd.underlying22, by decide, by decide, by decide⟩,
    ⟨fBt 4 _ sz_i32 ⟨_, Tryd.underlying26, _, rfl, rfl, rfl⟩, o_i32, Tryd.underlying21, by decide, by decide, by decide⟩,
    ⟨fBt 5 _ sz_i16 ⟨_, Tryd.underlying26, _, rfl, rfl, rfl⟩, o_i16, Tryd.underlying23, by decide, by decide, by decide⟩,
    ⟨fBt 6 _ sz_i32 ⟨_, Tryd.underlying26, _, rfl, rfl, rfl⟩, o_i32, Tryd.underlying21, by decide, by decide, by decide⟩,
    ⟨fBt 7 _ sz_i64 ⟨_, Tryd.underlying26, _, rfl, rfl, rfl⟩, o_i64, Tryd.underlying2, by decide, by decide, by decide⟩,
    ⟨fBt 8 _ sz_i64 ⟨_, Tryd.underlying26, _, rfl, rfl, rfl⟩, o_i64, Tryd.underlying2, by decide, by decide, by decide⟩,
    ⟨fBt 9 _ sz_i64 ⟨_, Tryd.underlying26, _, rfl, rfl, rfl⟩, o_i64, Tryd.underlying2, by decide, by decide, by decide⟩,
    ⟨fBt 10 _ sz_i16 ⟨_, Tryd.underlying26, _, rfl, rfl, rfl⟩, o_i16, Tryd.underlying23, by decide, by decide, by decide⟩,
    ⟨fBt 11 _ sz_i32 ⟨_, Tryd.underlying26, _, rfl, rfl, rfl⟩, o_i32, Tryd.underlying21, by decide, by decide, by decide⟩,
    ⟨fBt 12 _ sz_i32 ⟨_, Tryd.underlying26, _, rfl, rfl, rfl⟩, o_i32, Tryd.underlying21, by decide, by decide, by decide⟩, trivial⟩

noncomputable def bB : Code := (Tryd.f8.body).getD .skip
def gEndB (m : Nat) (c : Code) : Code := .seq (reg [⟨some m, .move (.tmp 3), none⟩, ⟨some (m + 1), .fieldAddr 26 (.tmp 1) 13, none⟩, ⟨some (m + 2), .load 24 (.tmp (m + 1)), none⟩, ⟨some (m + 3), .call ⟨.builtin .append, #[.tmp m, .tmp (m + 2)], #[24, 24]⟩, none⟩, ⟨some 2, .assign (.tmp (m + 3)), none⟩] (pc c [0])) .ret
noncomputable def restB : Code := gBs 22 26 2 3 5 24 bis 2 12 gEndB (pc bB [1, 1])
theorem restB_eq : pc bB [1, 1] = restB := by kernel_rfl

set_option maxRecDepth 100000 in
set_option maxHeartbeats 1000000 in
theorem bb_calls (w : World) (B : Nat) (b : Bt) (v : Value) (hB : B ≤ w.heap.size) (hv : Oc w B v b.rs) (hok : b.ok) (hl : b.rs.length + 200 ≤ lim2) : Calls Tryd.prog 8 #[.agg (b.cells v)] w (SpP 5 w b.out) := by
  obtain ⟨i0, hi, hz0, hz1, hz2⟩ := info_u8
  obtain ⟨A, c, rfl, _⟩ := hv.sl
  obtain ⟨⟨h0, h1, h2, h3, h4, h5, h6, h7, h8, h9, h10, h11, h12, _⟩⟩ := hok
  simp only [Prim.lo, Prim.hi] at h0 h1 h2 h3 h4 h5 h6 h7 h8 h9 h10 h11 h12
  have cF0 : Hid (∀ w', Calls Tryd.prog 22 #[.int .i64 b.n0, .int .i64 8] w' (SpP 5 w' (beEnc 8 b.n0))) := Lib.hid (fun w' => sp_fixed w' b.n0 8 h0.1 h0.2 (by decide))
  have cF1 : Hid (∀ w', Calls Tryd.prog 22 #[.int .i64 (IntKind.i64.wrap b.n1), .int .i64 4] w' (SpP 5 w' (beEnc 4 b.n1))) := Lib.hid (fun w' => by rw [IntWalk.i64_in b.n1 (by omega)]; exact sp_fixed w' b.n1 4 (by omega) (by omega) (by decide))
  obtain ⟨s0, hs0⟩ : ∃ s0, s0 = beEnc 8 b.n0 := ⟨_, rfl⟩
  obtain ⟨s1, hs1⟩ : ∃ s1, s1 = beEnc 4 b.n1 := ⟨_, rfl⟩
  rw [← hs0] at cF0
  rw [← hs1] at cF1
  have HLE : Hid (s0.length + s1.length ≤ lim2) := Lib.hid (by rw [hs0, hs1, beEnc_length, beEnc_length]; unfold lim2; omega)
  obtain ⟨W0, hW0⟩ : ∃ W0, W0 = w.alloc (.cells (b.cells (.slice A b.rs.length c)) 26) := ⟨_, rfl⟩
  have HALL : Hid (∀ w', Only (fun _ => False) W0 w' → w'.heap[w.heap.size]? = some (.cells (b.cells (.slice A b.rs.length c)) 26 (0, 0))) := Lib.hid fun w' h => by rw [hW0] at h; rw [h.block _ (by simp) id, heap_alloc_new]
  have HSq : Hid (∀ w', Only (fun _ => False) W0 w' → w'.cell? ⟨w.heap.size, 0, none⟩ = some (.int .i64 b.n0) ∧ w'.cell? ⟨w.heap.size, 1, none⟩ = some (.int .i32 b.n1)) := Lib.hid fun w' h => ⟨by simp [World.cell?, HALL.out w' h, Bt.cells], by simp [World.cell?, HALL.out w' h, Bt.cells]⟩
  have HO0 : Hid (Only (fun _ => False) w W0) := Lib.hid (by rw [hW0]; exact (Only.refl _ _).alloc _)
  have HS0 : Hid (W0.heap.size = w.heap.size + 1) := Lib.hid (by rw [hW0]; simp)
  have HD := Lib.hid ((Only.refl (fun _ => False) W0).drew)
  have HV := Lib.hid hv
  have HB := Lib.hid hB
  have HR := Lib.hid (And.intro h2 (And.intro h3 (And.intro h4 (And.intro h5 (And.intro h6 (And.intro h7 (And.intro h8 (And.intro h9 (And.intro h10 (And.intro h11 h12))))))))))
  have HL := Lib.hid hl
  have HE := Lib.hid (And.intro hs0 hs1)
  clear hs0 hs1
  clear hv hB hl h0 h1 h2 h3 h4 h5 h6 h7 h8 h9 h10 h11 h12
  show Calls _ _ #[.agg #[.int .i64 b.n0, .int .i32 b.n1, .int .i32 b.n2, .int .i8 b.n3, .int .i32 b.n4, .int .i16 b.n5, .int .i32 b.n6, .int .i64 b.n7, .int .i64 b.n8, .int .i64 b.n9, .int .i16 b.n10, .int .i32 b.n11, .int .i32 b.n12, .slice A b.rs.length c]] _ _
  go_enter Tryd.func8, Tryd.ntmps8
  go_wp2_with fail
  unfold Bt.cells at hW0
  rw [← hW0]
  clear hW0
  go_region_held3 (fun w' => w'.cell? ⟨w.heap.size, 0, none⟩ = some (.int .i64 b.n0) ∧ w'.cell? ⟨w.heap.size, 1, none⟩ = some (.int .i32 b.n1))
    (first | exact HSq.out _ HD.out | exact HSq.out _ HT1.out | exact HSq.out _ HT2.out | exact HSq.out _ HT3.out)
    (first
      | (refine step_app_oc rfl _ _ 24 rfl Tryd.underlying24 hi hz0 hz1 hz2 rfl HO2.out rfl HV2.out HT2.out.size HLE.out ?_; intro v5 w5 ho5 hw5; have HO5 := Lib.hid ho5; have HT3 := Lib.hid (HT2.out.own hw5 (Nat.le_refl _)); clear ho5 hw5)
      | (have hx := HO1.out; clear hx; go_at_call 22; refine (cF1.out _).mono ?_; rintro e2 w2 ⟨v2, rfl, ho, hw⟩; have HT2 := Lib.hid (HT1.out.trans hw); have HV2 := Lib.hid ho.oc; have HO2 := Lib.hid (HO1.out.keep hw); clear ho hw)
      | (go_at_call 22; refine (cF0.out _).mono ?_; rintro e1 w1 ⟨v1, rfl, ho, hw⟩; have HT1 := Lib.hid (HD.out.trans hw); have HO1 : Hid (Own 5 W0.heap.size w1 v1 s0) := Lib.hid ho; clear ho hw))
  all_goals
    have hz := HS0.out
    have hR := HR.out
    have hL := HL.out
    have hBk := HALL.out _ HT3.out
    have hO5 := HO5.out
    have hv := HV.out
    have hB := HB.out
    have hO := HO0.out.trans HT3.out
    have hw5s := HT3.out.size
    obtain ⟨hE0, hE1⟩ := HE.out
    clear HALL HSq HR HV HD HB HL HE HO1 HO2 HO5 HT1 HT2 HT3 HV2 HO0 HS0 cF0 cF1 HLE
    refine (show ∀ (a' : Act) (w' : World), Code.wp Tryd.prog _ _ a' w' → _ by assumption) _ _ ?_
    show (pc bB [1, 1]).wp Tryd.prog (bodyPost Tryd.prog Tryd.f8 (SpP 5 w b.out)) _ w5
    rw [restB_eq]
    have hcell : ∀ (w' : World), w'.heap[w.heap.size]? = w5.heap[w.heap.size]? → ∀ j u, (b.cells (.slice A b.rs.length c))[j]? = some u → w'.cell? ⟨w.heap.size, j, none⟩ = some u := fun w' h j u hj => by
      simp [World.cell?, h, hBk, hj]
    have hbs : bsC w5 w.heap.size bis b.rest 2 := by
      obtain ⟨r2, r3, r4, r5, r6, r7, r8, r9, r10, r11, r12⟩ := hR
      exact ⟨hcell w5 rfl 2 _ rfl, ⟨by omega, by omega⟩, hcell w5 rfl 3 _ rfl, ⟨by omega, by omega⟩, hcell w5 rfl 4 _ rfl, ⟨by omega, by omega⟩, hcell w5 rfl 5 _ rfl, ⟨by omega, by omega⟩, hcell w5 rfl 6 _ rfl, ⟨by omega, by omega⟩,
        hcell w5 rfl 7 _ rfl, r7, hcell w5 rfl 8 _ rfl, r8, hcell w5 rfl 9 _ rfl, r9, hcell w5 rfl 10 _ rfl, ⟨by omega, by omega⟩, hcell w5 rfl 11 _ rfl, ⟨by omega, by omega⟩, hcell w5 rfl 12 _ rfl, ⟨by omega, by omega⟩, trivial⟩
    have hlen : (s0 ++ s1).length = 12 := by rw [hE0, hE1, List.length_append, beEnc_length, beEnc_length]
    have hbl : bis.length = 11 := rfl
    refine gBs_wp (base := W0.heap.size) (bx := w.heap.size) (N := 79) fixC oct24 Tryd.underlying2 Tryd.underlying5 (by omega) bis b.rest 2 12 _ _ w5 _ bisOk hbs ⟨rfl, rfl, rfl, hO5, hw5s⟩ (by decide) (by decide) (by rw [hlen, hbl]; unfold lim2; omega) fun c7 a7 w7 st7 o7 => ?_
    clear hbs hO5 hR
    have k7 : w7.heap[w.heap.size]? = w5.heap[w.heap.size]? := o7.block _ (by omega) (by omega)
    have c13 : w7.cell? ⟨w.heap.size, 13, none⟩ = some (.slice A b.rs.length c) := hcell w7 k7 13 _ rfl
    have hO7 : Only (fun _ => False) w w7 := hO.own o7 (by omega)
    have hv7 := hv.keep (hO7.kept0 hB)
    have s7 := st7.size
    have hbsl := bsB_len bis b.rest (by decide)
    rw [hbl] at hbsl
    rw [show 12 + bsT bis = 75 from rfl]
    unfold gEndB
    refine wp_seq (wp_reg (wpC_val (runs_move _) ?_))
    rw [evT]
    have y0 : 75 < a7.tmps.size := by omega
    have k1 := (Ag.refl (fun j => j = 2 ∨ 75 ≤ j) a7).put (d := 75) (by omega) y0 (gt a7 3)
    have q1 : gt (a7.put (some 75) (gt a7 3)) 75 = gt a7 3 := by rw [gt_put y0, if_pos rfl]
    generalize a7.put (some 75) (gt a7 3) = b1 at k1 q1
    refine wpC_val (runs_fieldAddr (fBt 13 _ sz_sl ⟨_, Tryd.underlying26, _, rfl, rfl, rfl⟩) (p := ⟨w.heap.size, 0, none⟩) ((k1.keep 1 (by omega)).trans st7.bp)) ?_
    rw [Addr.add_lit]
    have y1 : 76 < b1.tmps.size := by rw [k1.size]; omega
    have k2 := k1.put (d := 76) (by omega) y1 (.pointer (some ⟨w.heap.size, 0 + 13, none⟩))
    have q2 : gt (b1.put (some 76) (.pointer (some ⟨w.heap.size, 0 + 13, none⟩))) 76 = .pointer (some ⟨w.heap.size, 13, none⟩) := by rw [gt_put y1, if_pos rfl]
    have q21 : gt (b1.put (some 76) (.pointer (some ⟨w.heap.size, 0 + 13, none⟩))) 75 = gt a7 3 := by rw [gt_put y1, if_neg (by omega)]; exact q1
    generalize b1.put (some 76) (.pointer (some ⟨w.heap.size, 0 + 13, none⟩)) = b2 at k2 q2 q21
    refine wpC_val (runs_load o_sl q2 c13) ?_
    have y2 : 77 < b2.tmps.size := by rw [k2.size]; omega
    have k3 := k2.put (d := 77) (by omega) y2 (.slice A b.rs.length c)
    have q3 : gt (b2.put (some 77) (.slice A b.rs.length c)) 77 = .slice A b.rs.length c := by rw [gt_put y2, if_pos rfl]
    have q31 : gt (b2.put (some 77) (.slice A b.rs.length c)) 75 = gt a7 3 := by rw [gt_put y2, if_neg (by omega)]; exact q21
    generalize b2.put (some 77) (.slice A b.rs.length c) = b3 at k3 q3 q31
    refine wpC_app (.tmp 75) (.tmp 77) 24 (base := W0.heap.size) (v := gt a7 3) (ds := s0 ++ s1 ++ bsB bis b.rest) (s := b.rs) (B := B) oct24 q31 st7.own q3 hv7 st7.hb (by rw [List.length_append, hlen]; unfold lim2 at *; omega) ?_
    intro v8 w8 hv8 ho8
    have y3 : 78 < b3.tmps.size := by rw [k3.size]; omega
    have k4 := k3.put (d := 78) (by omega) y3 v8
    have q4 : gt (b3.put (some 78) v8) 78 = v8 := by rw [gt_put y3, if_pos rfl]
    generalize b3.put (some 78) v8 = b4 at k4 q4
    refine wpC_val (runs_assign _) (wpC_nil (wp_ret ?_))
    rw [evT, q4]
    refine bodyPost_ret (results_tmp Tryd.results8 _ _ _) (by rw [defers_put]; exact k4.defers.trans st7.defers) ?_
    have y4 : 2 < b4.tmps.size := by rw [k4.size]; omega
    have e6 : (b4.put (some 2) v8).tmps.getD 2 undef = v8 := by
      show gt _ 2 = v8
      rw [gt_put y4, if_pos rfl]
    rw [e6]
    refine ⟨v8, rfl, ?_, hO7.own ho8 (by omega)⟩
    rw [Bt.out, ← hE0, ← hE1]
    exact hv8.lower (by omega)
end Go.Proofs.YtcanhgcceagplaaDoor.Kf
