/- The tags: how many there are. -/
import Derived.Test.YtpefipjgcpchaaaGreatDoorRPD
import Derived.Test.YtpefipjgcpchaaaGreatDoorRProg
import Derived.Lib.Hide
import Derived.Maps.OwnSet
namespace Go.Proofs.YtpefipjgcpchaaaGreatDoorR.Kf
set_option linter.unusedVariables false
set_option linter.unusedSimpArgs false
open Go Go.RowKit

def TLenP (w : World) (k : Nat) (e : Ending) (w' : World) : Prop := ∃ v, e = .returned v ∧ (v = .int .i64 k ∧ Only (fun _ => False) w w')
set_option maxRecDepth 100000 in
theorem tags_len : TLenC Tryz.prog 44 := by
  refine ⟨⟨_, Tryz.func44, rfl, rfl⟩, fun D w b off lo hi cs l hc hx => ?_⟩
  show Calls _ _ _ _ (TLenP w l.length)
  obtain ⟨l', hl, h⟩ := hx
  cases hl
  rcases h with ⟨rfl, rfl⟩ | ⟨r, rfl, _, _, es, clock, hm, _, p, hp, hlen, _⟩
  · have c0 : w.cell? ⟨b, off, none⟩ = some (.map none) := hc 0 _ rfl
    clear hc
    go_enter Tryz.func44, Tryz.ntmps44
    go_wp2
    go_ret
    exact ⟨_, rfl, rfl, Only.refl _ _⟩
  · have c0 : w.cell? ⟨b, off, none⟩ = some (.map (some r)) := hc 0 _ rfl
    have hn : es.size = l.length := by have := hp.length_eq; simp at hlen; omega
    have hL : (Builtin.len_ #[62] 3 #[.map (some r)]).run Tryz.prog w = .ok (.int .i64 (es.size : Nat)) w := by
      simp [Builtin.len_, run_underlying Tryz.underlying62, MapKept.run_getObj_map hm, goInt, Result.andThen]
    have HN := Lib.hid hn
    clear hc hp hlen hn
    go_enter Tryz.func44, Tryz.ntmps44
    go_wp2
    go_ret
    exact ⟨.int .i64 (es.size : Nat), rfl, by rw [← HN.out], Only.refl _ _⟩
end Go.Proofs.YtpefipjgcpchaaaGreatDoorR.Kf
