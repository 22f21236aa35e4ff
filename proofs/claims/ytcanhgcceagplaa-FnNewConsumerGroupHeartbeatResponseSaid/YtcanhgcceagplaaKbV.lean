/- Sixteen octets in a row: read, written. -/
import Derived.Test.YtcanhgcceagplaaKbE
import Derived.Test.YtcanhgcceagplaaKbG
import Derived.Test.YtcanhgcceagplaaKbL
import Derived.Deep.RegionHeld3
import Derived.Deep.MidRow
import Derived.Laws.Rows
import Derived.Laws.CopyOwn
import Derived.Lib.Hide
namespace Go.Proofs.Ytcanhgcceagplaa.Kf
set_option linter.unusedVariables false
set_option linter.unusedSimpArgs false
open Go Go.RowKit

theorem arr16 : (Try.prog.info? 92).map (·.size) = some 16 := by kernel_rfl
theorem u8one : (Try.prog.info? 5).map (·.size) = some 1 := by kernel_rfl
set_option maxRecDepth 100000 in
theorem app_uuidC : AppC Try.prog 5 50 (.prim .uuid) := by
  refine ⟨plain_g Try.func50 rfl rfl, fun D base w dst ds lo hi cs x hown hx hw hdb hb hl => ?_⟩
  rcases hx with ⟨h, _⟩ | ⟨_, s, hs, rfl, rfl⟩
  · exact absurd rfl h
  · have e : (enc (RK.prim .uuid).m.w (.bytes (some s))) = s := by simp [RK.m, M.w, enc]
    rw [e] at hl ⊢
    show Calls Try.prog 50 #[dst, .agg (s.map u8v).toArray] w (AppP 5 base w (ds ++ s))
    obtain ⟨i0, hi, hz0, hz1, hz2⟩ := info_u8
    have hsz : (s.map u8v).toArray.size = 16 := by simpa using hs
    have HS := Lib.hid hs
    have HO := Lib.hid (hown.keep ((Only.refl (fun _ => False) w).alloc (.cells (s.map u8v).toArray 92)))
    have HL := Lib.hid hl
    have HB := Lib.hid hb
    have HC : Hid (∀ j b, s[j]? = some b → (w.alloc (.cells (s.map u8v).toArray 92)).cell? ⟨w.heap.size, 0 + j, none⟩ = some (u8v b)) := Lib.hid fun j b hj => by
      have : (s.map u8v).toArray[0 + j]? = some (u8v b) := by simp [hj]
      simp only [World.cell?, heap_alloc_new]
      exact this
    clear hown hl hb hs
    generalize (s.map u8v).toArray = A at *
    go_enter Try.func50, Try.ntmps50
    go_wp2_with (first
      | (at_builtin; refine wp_app_sp rfl (.tmp 5) (.tmp 6) 28 rfl Try.underlying28 hi hz0 hz1 hz2 rfl HO.out (D := w.heap.size) (p := 0) (c := 16) (by rw [HS.out]; rfl) HC.out (Nat.le_trans HB.out ((Only.refl (fun _ => False) w).alloc (.cells A 92)).size) (by have := HL.out; omega) ?_; intro v2 w2 ho2 hw2; have HO2 := Lib.hid ho2; have HW2 := Lib.hid (((Only.refl (fun j => base ≤ j) w).alloc (.cells A 92)).trans hw2); clear ho2 hw2)
      | fail)
    go_ret
    exact ⟨_, rfl, HO2.out, HW2.out⟩
end Go.Proofs.Ytcanhgcceagplaa.Kf
