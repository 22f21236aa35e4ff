/- A message made anew: what its cells say, and what is written of it. -/
import Derived.Test.YthlfepgcjomhpaaNewA
namespace Go.Proofs.Ythlfepgcjomhpaa.Kf
set_option linter.unusedVariables false
set_option linter.unusedSimpArgs false
open Go Go.RowKit

section
variable {P : Program}
theorem NewD_calls {NP SV WR NW T PT sl int i16 U sz : Nat} {z : Array Value} {fn : Func} (hfn : P.funcs[NW]? = some fn) (c0 : Code) (hbody : fn.body = some (gNewM NP SV WR PT sl int i16 c0)) (hres : fn.results = #[.tmp 2]) (hnt : fn.ntmps = 11)
    (hp1 : Plain P NP) (hp2 : Plain P SV) (hp3 : Plain P WR) (hi : P.underlying int = some (.int .i64)) (hj : P.underlying i16 = some (.int .i16)) (hsz : z.size = sz) (hs1 : 1 ≤ sz)
    (hNP : ∀ w, Calls P NP #[] w (NewVP z T w))
    (hSV : ∀ w b n, Blk w b sz → Calls P SV #[.pointer (some ⟨b, 0, none⟩), .int .i16 n] w fun e w' => e = .returned (.tuple #[]) ∧ Only (· = b) w w' ∧ Upd b 0 1 w w' ∧ w'.cell? ⟨b, 0, none⟩ = some (.int .i16 n))
    {w : World} {ver : Int} {out : List UInt8} (hr : IntKind.i16.wrap ver = ver)
    (hWR : ∀ (w : World) (b : Nat), (∀ j v, (.int .i16 ver :: z.toList.tail)[j]? = some v → w.cell? ⟨b, j, none⟩ = some v) → b < w.heap.size →
      Calls P WR #[.pointer (some ⟨b, 0, none⟩), .slice none 0 0] w fun e w' => ∃ v, e = .returned v ∧ Own U w.heap.size w' v out ∧ Only (fun _ => False) w w') :
    Calls P NW #[.int .i64 ver] w (SpP U w out) := by
  refine calls_of_wp hfn hbody ?_
  obtain ⟨a0, ha, asz, adf, ag⟩ := start_act #[.int .i64 ver] fn.ntmps (by rw [hnt]; simp)
  rw [← ha]
  have g0 : gt a0 0 = .int .i64 ver := ag 0 _ rfl
  clear ag ha
  rw [hnt] at asz
  refine wp_seq (wp_reg (stV (by omega) (runs_assign _) fun b1 k1 => stE (wp_seq (wp_reg ?_))))
  refine stC (vs := #[]) (R := fun e w' => NewVP z T w e w') (by rw [k1.size]; omega) hp1 (by simp) ((hNP w).mono fun e w' h => ⟨_, h.1, h.1 ▸ h⟩) fun p w1 b3 hR k3 => ?_
  obtain ⟨hp, O1, hb1⟩ := hR
  obtain rfl : p = _ := by simpa using hp
  refine stV (by rw [k3.size, k1.size]; omega) (runs_assign _) fun b4 k4 => stE (wp_seq (wp_reg ?_))
  have e3 : gt b4 3 = .pointer (some ⟨w.heap.size, 0, none⟩) := k4.new.trans k3.new
  have s4 : b4.tmps.size = 11 := by rw [k4.size, k3.size, k1.size, asz]
  have d4 : b4.defers = [] := by rw [k4.defers, k3.defers, k1.defers, adf]
  have e0 : gt b4 0 = .int .i64 ver := by rw [k4.old _ (by decide), k3.old _ (by decide), k1.old _ (by decide), g0]
  clear k1 k3 k4 g0
  refine stV (by omega) (runs_move _) fun b5 k5 => stV (by rw [k5.size]; omega) (runs_move _) fun b6 k6 => stV (by rw [k6.size, k5.size]; omega) (runs_conv hi hj (n := ver) (by rw [evT, k6.new, evT, k5.old _ (by decide), e0])) fun b7 k7 => ?_
  rw [hr] at k7
  have hB1 : Blk w1 w.heap.size sz := ⟨_, T, hb1, by simpa using hsz⟩
  refine stC (vs := #[.pointer (some ⟨w.heap.size, 0, none⟩), .int .i16 ver]) (R := fun e w' => e = .returned (.tuple #[]) ∧ Only (· = w.heap.size) w1 w' ∧ Upd w.heap.size 0 1 w1 w' ∧ w'.cell? ⟨w.heap.size, 0, none⟩ = some (.int .i16 ver)) (by rw [k7.size, k6.size, k5.size]; omega) hp2 (args2 (by rw [k7.old _ (by decide), k6.old _ (by decide), k5.new, evT, e3]) k7.new) ((hSV w1 w.heap.size ver hB1).mono fun e w' h => ⟨_, h.1, rfl, h.2⟩) fun u w2 b8 hR k8 => stE (wp_seq (wp_reg ?_))
  obtain ⟨_, O2, hU, hc⟩ := hR
  have e3' : gt b8 3 = .pointer (some ⟨w.heap.size, 0, none⟩) := by rw [k8.old _ (by decide), k7.old _ (by decide), k6.old _ (by decide), k5.old _ (by decide), e3]
  have s8 : b8.tmps.size = 11 := by rw [k8.size, k7.size, k6.size, k5.size, s4]
  have d8 : b8.defers = [] := by rw [k8.defers, k7.defers, k6.defers, k5.defers, d4]
  clear k5 k6 k7 k8 e0 e3
  have O02 : Only (fun _ => False) w w2 := O1.own (B := w.heap.size) (O2.mono fun k _ (h : k = _) => by omega) (Nat.le_refl _)
  have hlt : w.heap.size < w2.heap.size := Nat.lt_of_lt_of_le hB1.lt O2.size
  have hz : ∀ j v, (.int .i16 ver :: z.toList.tail)[j]? = some v → w2.cell? ⟨w.heap.size, j, none⟩ = some v := by
    intro j v hj
    cases j with
    | zero => simp at hj; subst hj; exact hc
    | succ j =>
      rw [hU.cell hB1 (.inr (by omega))]
      have : z[j + 1]? = some v := by simpa using hj
      simp [World.cell?, hb1, this]
  refine stV (by omega) (runs_move _) fun b9 k9 => ?_
  refine stC (R := fun e w' => ∃ v, e = .returned v ∧ Own U w2.heap.size w' v out ∧ Only (fun _ => False) w2 w') (by rw [k9.size]; omega) hp3 (args2c (v := .slice none 0 0) (by rw [k9.new, evT, e3'])) ((hWR w2 w.heap.size hz hlt).mono fun e w' ⟨v, h, k⟩ => ⟨v, h, v, rfl, k⟩) fun v w3 b10 hR k10 => ?_
  obtain ⟨v', e', hown, ho⟩ := hR
  obtain rfl : v = v' := by simpa using e'
  refine stV (by rw [k10.size, k9.size]; omega) (runs_assign _) fun b11 k11 => stE (wp_ret ?_)
  refine bodyPost_ret (results_tmp hres _ _ _) (by rw [k11.defers, k10.defers, k9.defers, d8]) ?_
  have e : b11.tmps.getD 2 undef = v := k11.new.trans (by rw [evT, k10.new])
  rw [e]
  exact ⟨v, rfl, hown.lower O02.size, O02.trans ho⟩
end
end Go.Proofs.Ythlfepgcjomhpaa.Kf
