/- Batches of records in this program: one that the row's data speak of. -/
import Derived.Test.YtcanhgcceagplaaDoorTbC
import Derived.Test.YtcanhgcceagplaaDoorRowB
namespace Go.Proofs.YtcanhgcceagplaaDoor.Kf
set_option linter.unusedVariables false
set_option linter.unusedSimpArgs false
open Go Go.RowKit Go.ChangeShapes Go.WideShapes Go.ChangeAt

set_option maxRecDepth 100000 in
theorem bt_trod {H : Type} {enc : TypeId × Value → H} {W : World} {fuel : Nat} {l : List Value} {x : DataW H × List MemPlace} (h : DataW.trod enc Tryd.prog W 0 (fun _ => true) true fuel 26 l = some x) :
    ∃ (b : Bt) (A : Option Addr) (c : Nat), l = (b.cells (.slice A b.rs.length c)).toList ∧ b.ok ∧ Oc W W.heap.size (.slice A b.rs.length c) b.rs := by
  have hl := struct_len (i := 0) (o := 0) (u := 2) ⟨_, Tryd.underlying26, _, rfl, rfl, rfl⟩ h
  rw [show Tryd.prog.cellsOf 26 = 14 from by kernel_rfl] at hl
  obtain ⟨a0, a1, a2, a3, a4, a5, a6, a7, a8, a9, a10, a11, a12, a13, rfl⟩ : ∃ a0 a1 a2 a3 a4 a5 a6 a7 a8 a9 a10 a11 a12 a13, l = [a0, a1, a2, a3, a4, a5, a6, a7, a8, a9, a10, a11, a12, a13] := by
    match l, hl with
    | [a0, a1, a2, a3, a4, a5, a6, a7, a8, a9, a10, a11, a12, a13], _ => exact ⟨a0, a1, a2, a3, a4, a5, a6, a7, a8, a9, a10, a11, a12, a13, rfl⟩
  have c64 : Tryd.prog.cellsOf 2 = 1 := by kernel_rfl
  have c32 : Tryd.prog.cellsOf 21 = 1 := by kernel_rfl
  have c16 : Tryd.prog.cellsOf 23 = 1 := by kernel_rfl
  have c8 : Tryd.prog.cellsOf 22 = 1 := by kernel_rfl
  have cu8 : Tryd.prog.cellsOf 5 = 1 := by kernel_rfl
  have csl : Tryd.prog.cellsOf 24 = 1 := by kernel_rfl
  obtain ⟨n0, y0, l0, _, h0, _, _⟩ := field_trod (i := 0) (o := 0) (u := 2) ⟨_, Tryd.underlying26, _, rfl, rfl, rfl⟩ c64 h
  obtain ⟨q0, e0, _, w0⟩ := DataW.trod_int Tryd.underlying2 h0
  have e0 : a0 = .int .i64 q0 := by simpa using e0
  subst e0
  have r0 : -9223372036854775808 ≤ q0 ∧ q0 ≤ 9223372036854775807 := by simpa [Lit.wf, IntKind.min, IntKind.max, IntKind.signed, IntKind.bits] using w0
  obtain ⟨n1, y1, l1, _, h1, _, _⟩ := field_trod (i := 1) (o := 1) (u := 21) ⟨_, Tryd.underlying26, _, rfl, rfl, rfl⟩ c32 h
  obtain ⟨q1, e1, _, w1⟩ := DataW.trod_int Tryd.underlying21 h1
  have e1 : a1 = .int .i32 q1 := by simpa using e1
  subst e1
  have r1 : -2147483648 ≤ q1 ∧ q1 ≤ 2147483647 := by simpa [Lit.wf, IntKind.min, IntKind.max, IntKind.signed, IntKind.bits] using w1
  obtain ⟨n2, y2, l2, _, h2, _, _⟩ := field_trod (i := 2) (o := 2) (u := 21) ⟨_, Tryd.underlying26, _, rfl, rfl, rfl⟩ c32 h
  obtain ⟨q2, e2, _, w2⟩ := DataW.trod_int Tryd.underlying21 h2
  have e2 : a2 = .int .i32 q2 := by simpa using e2
  subst e2
  have r2 : -2147483648 ≤ q2 ∧ q2 ≤ 2147483647 := by simpa [Lit.wf, IntKind.min, IntKind.max, IntKind.signed, IntKind.bits] using w2
  obtain ⟨n3, y3, l3, _, h3, _, _⟩ := field_trod (i := 3) (o := 3) (u := 22) ⟨_, Tryd.underlying26, _, rfl, rfl, rfl⟩ c8 h
  obtain ⟨q3, e3, _, w3⟩ := DataW.trod_int Tryd.underlying22 h3
  have e3 : a3 = .int .i8 q3 := by simpa using e3
  subst e3
  have r3 : -128 ≤ q3 ∧ q3 ≤ 127 := by simpa [Lit.wf, IntKind.min, IntKind.max, IntKind.signed, IntKind.bits] using w3
  obtain ⟨n4, y4, l4, _, h4, _, _⟩ := field_trod (i := 4) (o := 4) (u := 21) ⟨_, Tryd.underlying26, _, rfl, rfl, rfl⟩ c32 h
  obtain ⟨q4, e4, _, w4⟩ := DataW.trod_int Tryd.underlying21 h4
  have e4 : a4 = .int .i32 q4 := by simpa using e4
  subst e4
  have r4 : -2147483648 ≤ q4 ∧ q4 ≤ 2147483647 := by simpa [Lit.wf, IntKind.min, IntKind.max, IntKind.signed, IntKind.bits] using w4
  obtain ⟨n5, y5, l5, _, h5, _, _⟩ := field_trod (i := 5) (o := 5) (u := 23) ⟨_, Tryd.underlying26, _, rfl, rfl, rfl⟩ c16 h
  obtain ⟨q5, e5, _, w5⟩ := DataW.trod_int Tryd.underlying23 h5
  have e5 : a5 = .int .i16 q5 := by simpa using e5
  subst e5
  have r5 : -32768 ≤ q5 ∧ q5 ≤ 32767 := by simpa [Lit.wf, IntKind.min, IntKind.max, IntKind.signed, IntKind.bits] using w5
  obtain ⟨n6, y6, l6, _, h6, _, _⟩ := field_trod (i := 6) (o := 6) (u := 21) ⟨_, Tryd.underlying26, _, rfl, rfl, rfl⟩ c32 h
  obtain ⟨q6, e6, _, w6⟩ := DataW.trod_int Tryd.underlying21 h6
  have e6 : a6 = .int .i32 q6 := by simpa using e6
  subst e6
  have r6 : -2147483648 ≤ q6 ∧ q6 ≤ 2147483647 := by simpa [Lit.wf, IntKind.min, IntKind.max, IntKind.signed, IntKind.bits] using w6
  obtain ⟨n7, y7, l7, _, h7, _, _⟩ := field_trod (i := 7) (o := 7) (u := 2) ⟨_, Tryd.underlying26, _, rfl, rfl, rfl⟩ c64 h
  obtain ⟨q7, e7, _, w7⟩ := DataW.trod_int Tryd.underlying2 h7
  have e7 : a7 = .int .i64 q7 := by simpa using e7
  subst e7
  have r7 : -9223372036854775808 ≤ q7 ∧ q7 ≤ 9223372036854775807 := by simpa [Lit.wf, IntKind.min, IntKind.max, IntKind.signed, IntKind.bits] using w7
  obtain ⟨n8, y8, l8, _, h8, _, _⟩ := field_trod (i := 8) (o := 8) (u := 2) ⟨_, Tryd.underlying26, _, rfl, rfl, rfl⟩ c64 h
  obtain ⟨q8, e8, _, w8⟩ := DataW.trod_int Tryd.underlying2 h8
  have e8 : a8 = .int .i64 q8 := by simpa using e8
  subst e8
  have r8 : -9223372036854775808 ≤ q8 ∧ q8 ≤ 9223372036854775807 := by simpa [Lit.wf, IntKind.min, IntKind.max, IntKind.signed, IntKind.bits] using w8
  obtain ⟨n9, y9, l9, _, h9, _, _⟩ := field_trod (i := 9) (o := 9) (u := 2) ⟨_, Tryd.underlying26, _, rfl, rfl, rfl⟩ c64 h
  obtain ⟨q9, e9, _, w9⟩ := DataW.trod_int Tryd.underlying2 h9
  have e9 : a9 = .int .i64 q9 := by simpa using e9
  subst e9
  have r9 : -9223372036854775808 ≤ q9 ∧ q9 ≤ 9223372036854775807 := by simpa [Lit.wf, IntKind.min, IntKind.max, IntKind.signed, IntKind.bits] using w9
  obtain ⟨n10, y10, l10, _, h10, _, _⟩ := field_trod (i := 10) (o := 10) (u := 23) ⟨_, Tryd.underlying26, _, rfl, rfl, rfl⟩ c16 h
  obtain ⟨q10, e10, _, w10⟩ := DataW.trod_int Tryd.underlying23 h10
  have e10 : a10 = .int .i16 q10 := by simpa using e10
  subst e10
  have r10 : -32768 ≤ q10 ∧ q10 ≤ 32767 := by simpa [Lit.wf, IntKind.min, IntKind.max, IntKind.signed, IntKind.bits] using w10
  obtain ⟨n11, y11, l11, _, h11, _, _⟩ := field_trod (i := 11) (o := 11) (u := 21) ⟨_, Tryd.underlying26, _, rfl, rfl, rfl⟩ c32 h
  obtain ⟨q11, e11, _, w11⟩ := DataW.trod_int Tryd.underlying21 h11
  have e11 : a11 = .int .i32 q11 := by simpa using e11
  subst e11
  have r11 : -2147483648 ≤ q11 ∧ q11 ≤ 2147483647 := by simpa [Lit.wf, IntKind.min, IntKind.max, IntKind.signed, IntKind.bits] using w11
  obtain ⟨n12, y12, l12, _, h12, _, _⟩ := field_trod (i := 12) (o := 12) (u := 21) ⟨_, Tryd.underlying26, _, rfl, rfl, rfl⟩ c32 h
  obtain ⟨q12, e12, _, w12⟩ := DataW.trod_int Tryd.underlying21 h12
  have e12 : a12 = .int .i32 q12 := by simpa using e12
  subst e12
  have r12 : -2147483648 ≤ q12 ∧ q12 ≤ 2147483647 := by simpa [Lit.wf, IntKind.min, IntKind.max, IntKind.signed, IntKind.bits] using w12
  obtain ⟨n13, y13, l13, _, h13, _, _⟩ := field_trod (i := 13) (o := 13) (u := 24) ⟨_, Tryd.underlying26, _, rfl, rfl, rfl⟩ csl h
  obtain ⟨bs, v, hv, ho⟩ := oc_trod Tryd.underlying24 Tryd.underlying5 cu8 h13
  have e13 : a13 = v := by simpa using hv
  subst e13
  obtain ⟨A, c, rfl, _⟩ := ho.sl
  exact ⟨⟨q0, q1, q2, q3, q4, q5, q6, q7, q8, q9, q10, q11, q12, bs⟩, A, c, rfl, ⟨⟨by simp only [Prim.lo]; omega, by simp only [Prim.hi]; omega⟩, ⟨by simp only [Prim.lo]; omega, by simp only [Prim.hi]; omega⟩, ⟨by simp only [Prim.lo]; omega, by simp only [Prim.hi]; omega⟩, ⟨by simp only [Prim.lo]; omega, by simp only [Prim.hi]; omega⟩, ⟨by simp only [Prim.lo]; omega, by simp only [Prim.hi]; omega⟩, ⟨by simp only [Prim.lo]; omega, by simp only [Prim.hi]; omega⟩, ⟨by simp only [Prim.lo]; omega, by simp only [Prim.hi]; omega⟩, ⟨by simp only [Prim.lo]; omega, by simp only [Prim.hi]; omega⟩, ⟨by simp only [Prim.lo]; omega, by simp only [Prim.hi]; omega⟩, ⟨by simp only [Prim.lo]; omega, by simp only [Prim.hi]; omega⟩, ⟨by simp only [Prim.lo]; omega, by simp only [Prim.hi]; omega⟩, ⟨by simp only [Prim.lo]; omega, by simp only [Prim.hi]; omega⟩, ⟨by simp only [Prim.lo]; omega, by simp only [Prim.hi]; omega⟩, trivial⟩, ho⟩

set_option maxRecDepth 100000 in
theorem bt_open {H : Type} {enc : TypeId × Value → H} {W : World} {b0 : Nat} {r : Reach} {v : Value} {d : DataW H} {ps : List MemPlace} (hval : Value.okWide Tryd.prog W r b0 26 v) (h : DataW.Trod enc Tryd.prog W 0 (fun _ => true) true 26 v d ps) :
    ∃ (b : Bt) (A : Option Addr) (c : Nat), v = .agg (b.cells (.slice A b.rs.length c)) ∧ b.ok ∧ Oc W W.heap.size (.slice A b.rs.length c) b.rs := by
  obtain ⟨fuel, hf⟩ := h
  obtain ⟨b, A, c, hl, hok, hv⟩ := bt_trod hf
  obtain ⟨cs, rfl⟩ : ∃ cs, v = .agg cs := by
    unfold Value.okWide at hval
    rw [Tryd.underlying26] at hval
    cases v <;> simp at hval
    exact ⟨_, rfl⟩
  refine ⟨b, A, c, ?_, hok, hv⟩
  have hl : cs.toList = (b.cells (.slice A b.rs.length c)).toList := hl
  rw [Array.toList_inj.1 hl]
end Go.Proofs.YtcanhgcceagplaaDoor.Kf
