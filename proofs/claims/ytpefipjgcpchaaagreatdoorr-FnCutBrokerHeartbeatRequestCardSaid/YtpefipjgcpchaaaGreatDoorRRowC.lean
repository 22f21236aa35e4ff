/- The rows' closed facts at this seat: the errors' variable, the types of trees, a world for the witnesses. -/
import Derived.Test.YtpefipjgcpchaaaGreatDoorRRowB
import Derived.Test.YtpefipjgcpchaaaGreatDoorRMsgB
import Derived.Test.YtpefipjgcpchaaaGreatDoorRLawB
import Derived.Test.YtpefipjgcpchaaaGreatDoorRPA
import Derived.Test.YtpefipjgcpchaaaGreatDoorRRows
import Derived.Test.YtpefipjgcpchaaaGreatDoorRCards
import Derived.Test.YtpefipjgcpchaaaGreatDoorRTie
namespace Go.Proofs.YtpefipjgcpchaaaGreatDoorR.Kf
set_option linter.unusedVariables false
set_option linter.unusedSimpArgs false
set_option maxRecDepth 100000
open Go Go.RowKit Go.ChangeShapes Go.WideShapes Go.ChangeAt

theorem own : ownKnob Tryz.prog.godebug = none := by kernel_rfl
theorem laidOut : laidOutB Tryz.prog = true := by kernel_rfl
theorem gErr : Tryz.prog.globalNamed "pub-kmsg/pub/kmsg/inner/kbin.ErrNotEnoughData" = some 1 := by kernel_rfl
theorem gErrT : (Tryz.prog.globals[1]?).map (·.type) = some 51 := by kernel_rfl
theorem ei_laid {W : World} {rest : List (String × DataW Unit)} (h : laidMet Tryz.prog (("pub-kmsg/pub/kmsg/inner/kbin.ErrNotEnoughData", Rows.laid_pub_kmsg_pub_kmsg_inner_kbin_ErrNotEnoughData) :: rest) W) : EI W := by
  obtain ⟨u, v, hc⟩ := err_laid gErr gErrT Tryz.underlying51 h
  exact ⟨⟨u, v, hc⟩, World.block_lt_of_cell? _ _ hc⟩
theorem treeT : TreeT Tryz.prog 26 23 24 59 22 5 2 4 57 where
  f0 := ⟨_, Tryz.underlying26, _, rfl, rfl, rfl⟩
  f1 := ⟨_, Tryz.underlying26, _, rfl, rfl, rfl⟩
  f2 := ⟨_, Tryz.underlying26, _, rfl, rfl, rfl⟩
  f3 := ⟨_, Tryz.underlying26, _, rfl, rfl, rfl⟩
  f4 := ⟨_, Tryz.underlying26, _, rfl, rfl, rfl⟩
  g0 := ⟨_, Tryz.underlying59, _, rfl, rfl, rfl⟩
  g1 := ⟨_, Tryz.underlying59, _, rfl, rfl, rfl⟩
  tl := Tryz.underlying23
  tu := Tryz.underlying24
  ts := Tryz.underlying22
  t8 := Tryz.underlying5
  t64 := Tryz.underlying2
  tb := Tryz.underlying4
  t32 := Tryz.underlying57
  cT := by kernel_rfl
  cG := by kernel_rfl
  c8 := by kernel_rfl
  cs := by kernel_rfl
  c64 := by kernel_rfl
  cb := by kernel_rfl
  c32 := by kernel_rfl
  cL := by kernel_rfl
  cU := by kernel_rfl

noncomputable def low : Nat := (World.holding Tryz.prog default ⟨#[], #[], []⟩).heap.size
/-- A world for the witness: the settled one, the errors' variable holding what its initialiser lays. -/
noncomputable def laidWorld (os : Os) : World :=
  let w0 := World.holding Tryz.prog os ⟨#[.cells #[.string { data := #[114, 101, 115, 112, 111, 110, 115, 101, 32, 100, 105, 100, 32, 110, 111, 116, 32, 99, 111, 110, 116, 97, 105, 110, 32, 101, 110, 111, 117, 103, 104, 32, 100, 97, 116, 97, 32, 116, 111, 32, 98, 101, 32, 118, 97, 108, 105, 100] }] 187], #[], []⟩
  { w0 with heap := w0.heap.modify 1 fun
      | .cells _ t frozen => .cells #[.iface 169 (.pointer (some ⟨low, 0, none⟩))] t frozen
      | o => o }
end Go.Proofs.YtpefipjgcpchaaaGreatDoorR.Kf
