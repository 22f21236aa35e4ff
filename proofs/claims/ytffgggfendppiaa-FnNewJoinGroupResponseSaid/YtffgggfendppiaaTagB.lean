/- Tags: one is set. -/
import Derived.Test.YtffgggfendppiaaTagA
import Derived.Test.YtffgggfendppiaaKbG
import Derived.Test.YtffgggfendppiaaProg
import Derived.Lib.Hide
import Derived.Carry
import Derived.OwnWalk
import Derived.WalkSpells
namespace Go.Proofs.Ytffgggfendppiaa.Kf
set_option linter.unusedVariables false
set_option linter.unusedSimpArgs false
open Go Go.RowKit

def tgK : TypeId := 78
theorem und_tgK : Try.prog.underlying tgK = some (.int .u32) := Try.underlying78
/-- A tags' variable in a block of its own. -/
def TB (b : Nat) (w : World) (tv : Value) : Prop := w.heap[b]? = some (.cells #[tv] 56)
theorem TB.cell {b : Nat} {w : World} {tv : Value} (h : TB b w tv) : w.cell? ⟨b, 0, none⟩ = some tv := by
  unfold TB at h; simp [World.cell?, h]
theorem TB.froz {b : Nat} {w : World} {tv : Value} (h : TB b w tv) : w.frozen? ⟨b, 0, none⟩ = false := by
  unfold TB at h; simp [World.frozen?, h]
theorem TB.lt {b : Nat} {w : World} {tv : Value} (h : TB b w tv) : b < w.heap.size := (Array.getElem?_eq_some_iff.1 h).1
theorem TB.set {b : Nat} {w : World} {tv tv' : Value} (h : TB b w tv) : TB b (w.setCell ⟨b, 0, none⟩ tv') tv' := heap_setCell_same w b 0 _ 56 tv' h
theorem TB.keep {b : Nat} {w w' : World} {tv : Value} (h : TB b w tv) (hk : w'.heap[b]? = w.heap[b]?) : TB b w' tv := hk.trans h

/-- What Set comes to. -/
def SetP (D base b n : Nat) (acc : List (Nat × List UInt8)) (w : World) (e : Ending) (w' : World) : Prop :=
  e = .returned (.tuple #[]) ∧ Only (fun j => base ≤ j) w w' ∧ ∃ tv', TB b w' tv' ∧ TagsV Try.prog tgK w' D base n acc tv'

theorem tb_ne_map {b r n : Nat} {w : World} {tv : Value} {P : Program} {k : TypeId} {R : Value → Option (DataW (List UInt8) × List MemPlace)} {Dd : DataW (List UInt8)} (h : TB b w tv) (ho : w.ownsMap P k R r n Dd) : r ≠ b := by
  rintro rfl
  obtain ⟨es, clock, hb, _⟩ := ho
  unfold TB at h
  rw [hb] at h; cases h
theorem only_setAt {S : Nat → Prop} {w w' : World} {b : Nat} (h : Only S w w') (hb : S b) (o : Nat) (v : Value) : Only S w (w'.setCell ⟨b, o, none⟩ v) :=
  ⟨h.os, h.tape, h.output, by simpa using h.size, fun k hk hne => (heap_setCell_other _ _ k v (fun e => hne (by have e' : k = b := e; rw [e']; exact hb))).trans (h.block k hk hne)⟩
theorem owns_setCell {b r n : Nat} {w : World} {v : Value} {P : Program} {k : TypeId} {R : Value → Option (DataW (List UInt8) × List MemPlace)} {Dd : DataW (List UInt8)} (ho : w.ownsMap P k R r n Dd) (hne : r ≠ b) : (w.setCell ⟨b, 0, none⟩ v).ownsMap P k R r n Dd := ho.setCell hne v

end Go.Proofs.Ytffgggfendppiaa.Kf
