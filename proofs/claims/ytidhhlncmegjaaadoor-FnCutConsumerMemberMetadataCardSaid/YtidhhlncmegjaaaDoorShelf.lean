/-
  DERIVED: THE SHELF's CONTRACTS AT THIS DUMP, IN PLAIN WORDS (tools/lay-plain.mjs out of 'TrydShelf.lean', which tools/lay-shelf.mjs wrote): THE SAME DECLARATIONS UNDER THE SAME NAMES: 'import', 'namespace', 'open', 'def', 'theorem' AND NOTHING ELSE: no command of the shelf's: FOR A HAND-IN. Each laying: the table of numbers ('.._ren') and one theorem, a field a fact of the dump's own or the kernel's comparison; each contract: ONE APPLICATION.
-/
import Derived.Shelf.Small.Bits
import Derived.Shelf.Strconv.Itoa0
import Derived.Ground.MnProg
import Derived.Shelf.Bin.BEUint16
import Derived.Shelf.Bin.BEUint32
import Derived.Shelf.Bin.BEUint64
import Derived.Ground.GgsProg
import Derived.Shelf.GgSortFunc.Insertion
import Derived.Shelf.GgSortFunc.Small
import Derived.Shelf.GgSortFunc.Tiny
import Derived.Shelf.GgSortFunc.Compose
import Derived.Shelf.GgSortFunc.LotD
import Derived.Shelf.GgSortFunc.Pivot
import Derived.Shelf.GgSortFunc.Partition
import Derived.Shelf.GgSortFunc.Pdq
import Derived.Shelf.GgSortFunc.Whole
import Derived.Shelf.SlSortFunc.Xorshift
import Derived.Shelf.SlSortFunc.SiftDown
import Derived.Shelf.SlSortFunc.HeapSort
import Derived.Shelf.SlSortFunc.PartialInsertion
import Derived.Test.YtidhhlncmegjaaaDoorProg
namespace Go.Proofs
open Go.Shelf
def Tryd.lays128_ren : Go.Shelf.Ren := ⟨fun | 128 => 171 | n => n, fun | 51 => 78 | 3 => 3 | 4 => 4 | 46 => 145 | 5 => 5 | 9 => 9 | n => n, fun | n => n⟩
theorem Tryd.lays128 : Go.Proofs.Lays.n128 Tryd.prog Tryd.lays128_ren := {
  mixed := by kernel_rfl
  f128 := Tryd.func171.trans (congrArg some (by kernel_rfl))
  t3 := Tryd.underlying3
  a3 := Tryd.isAgg3
  z3 := Tryd.sizeOf3
  v3 := Tryd.zeroValue3
  t4 := Tryd.underlying4
  a4 := Tryd.isAgg4
  z4 := Tryd.sizeOf4
  v4 := Tryd.zeroValue4
  t5 := Tryd.underlying5
  a5 := Tryd.isAgg5
  z5 := Tryd.sizeOf5
  v5 := Tryd.zeroValue5
  t9 := Tryd.underlying9
  a9 := Tryd.isAgg9
  z9 := Tryd.sizeOf9
  v9 := Tryd.zeroValue9
  t46 := Tryd.underlying145
  a46 := Tryd.isAgg145
  z46 := Tryd.sizeOf145
  v46 := Tryd.zeroValue145
  t51 := Tryd.underlying78
  a51 := Tryd.isAgg78
  z51 := Tryd.sizeOf78
  v51 := Tryd.zeroValue78 }
/-- bits.Len32: "Len32 returns the minimum number of bits required to represent x; the result is 0 for x == 0.": IT RETURNS 'Lib.bitLen x'; the world is as it was. ('h0', 'h1': x is a uint32.) (LAID: no walk: one application.) -/
theorem Tryd.bits_Len32 (x : Int) (w : World) (h0 : 0 ≤ x) (h1 : x ≤ 4294967295) :
    Calls Tryd.prog 171 #[.int .u32 x] w fun e w' => e = .returned (.int .i64 (Lib.bitLen x.toNat)) ∧ w' = w := Any.bits_Len32 Tryd.lays128 x w h0 h1
def Tryd.lays125_ren : Go.Shelf.Ren := ⟨fun | 125 => 179 | 128 => 171 | 129 => 191 | n => n, fun | 46 => 145 | 3 => 3 | 51 => 78 | 53 => 106 | 4 => 4 | 5 => 5 | 9 => 9 | n => n, fun | n => n⟩
theorem Tryd.lays125 : Go.Proofs.Lays.n125 Tryd.prog Tryd.lays125_ren := {
  mixed := by kernel_rfl
  f125 := Tryd.func179.trans (congrArg some (by kernel_rfl))
  f128 := Tryd.func171.trans (congrArg some (by kernel_rfl))
  f129 := Tryd.func191.trans (congrArg some (by kernel_rfl))
  t3 := Tryd.underlying3
  a3 := Tryd.isAgg3
  z3 := Tryd.sizeOf3
  v3 := Tryd.zeroValue3
  t4 := Tryd.underlying4
  a4 := Tryd.isAgg4
  z4 := Tryd.sizeOf4
  v4 := Tryd.zeroValue4
  t5 := Tryd.underlying5
  a5 := Tryd.isAgg5
  z5 := Tryd.sizeOf5
  v5 := Tryd.zeroValue5
  t9 := Tryd.underlying9
  a9 := Tryd.isAgg9
  z9 := Tryd.sizeOf9
  v9 := Tryd.zeroValue9
  t46 := Tryd.underlying145
  a46 := Tryd.isAgg145
  z46 := Tryd.sizeOf145
  v46 := Tryd.zeroValue145
  t51 := Tryd.underlying78
  a51 := Tryd.isAgg78
  z51 := Tryd.sizeOf78
  v51 := Tryd.zeroValue78
  t53 := Tryd.underlying106
  a53 := Tryd.isAgg106
  z53 := Tryd.sizeOf106
  v53 := Tryd.zeroValue106 }
/-- bits.Len: "Len returns the minimum number of bits required to represent x; the result is 0 for x == 0.": IT RETURNS 'Lib.bitLen x'; the world is as it was. (A uint has 64 bits in the model.) ITS CALLEE bits.Len64 IS MET BY ITS OWN CONTRACT OFF THE SHELF (lay that first). (LAID: no walk: one application.) -/
theorem Tryd.bits_Len (x : Int) (w : World) (h0 : 0 ≤ x) (h1 : x ≤ 18446744073709551615) :
    Calls Tryd.prog 179 #[.int .u64 x] w fun e w' => e = .returned (.int .i64 (Lib.bitLen x.toNat)) ∧ w' = w := Any.bits_Len Tryd.lays125 x w h0 h1
def Tryd.lays129_ren : Go.Shelf.Ren := ⟨fun | 129 => 191 | n => n, fun | 53 => 106 | 3 => 3 | 4 => 4 | 46 => 145 | 5 => 5 | 9 => 9 | n => n, fun | n => n⟩
theorem Tryd.lays129 : Go.Proofs.Lays.n129 Tryd.prog Tryd.lays129_ren := {
  mixed := by kernel_rfl
  f129 := Tryd.func191.trans (congrArg some (by kernel_rfl))
  t3 := Tryd.underlying3
  a3 := Tryd.isAgg3
  z3 := Tryd.sizeOf3
  v3 := Tryd.zeroValue3
  t4 := Tryd.underlying4
  a4 := Tryd.isAgg4
  z4 := Tryd.sizeOf4
  v4 := Tryd.zeroValue4
  t5 := Tryd.underlying5
  a5 := Tryd.isAgg5
  z5 := Tryd.sizeOf5
  v5 := Tryd.zeroValue5
  t9 := Tryd.underlying9
  a9 := Tryd.isAgg9
  z9 := Tryd.sizeOf9
  v9 := Tryd.zeroValue9
  t46 := Tryd.underlying145
  a46 := Tryd.isAgg145
  z46 := Tryd.sizeOf145
  v46 := Tryd.zeroValue145
  t53 := Tryd.underlying106
  a53 := Tryd.isAgg106
  z53 := Tryd.sizeOf106
  v53 := Tryd.zeroValue106 }
/-- bits.Len64: "Len64 returns the minimum number of bits required to represent x; the result is 0 for x == 0.": IT RETURNS 'Lib.bitLen x'; the world is as it was. ('h0', 'h1': x is a uint64.) (LAID: no walk: one application.) -/
theorem Tryd.bits_Len64 (x : Int) (w : World) (h0 : 0 ≤ x) (h1 : x ≤ 18446744073709551615) :
    Calls Tryd.prog 191 #[.int .u64 x] w fun e w' => e = .returned (.int .i64 (Lib.bitLen x.toNat)) ∧ w' = w := Any.bits_Len64 Tryd.lays129 x w h0 h1
def Tryd.laysBin36_ren : Go.Shelf.Ren := ⟨fun | 36 => 165 | n => n, fun | 37 => 156 | 22 => 22 | 23 => 27 | 0 => 0 | 5 => 5 | 45 => 145 | n => n, fun | n => n⟩
theorem Tryd.laysBin36 : Go.Proofs.LaysBin.n36 Tryd.prog Tryd.laysBin36_ren := {
  mixed := by kernel_rfl
  f36 := Tryd.func165.trans (congrArg some (by kernel_rfl))
  t0 := Tryd.underlying0
  a0 := Tryd.isAgg0
  z0 := Tryd.sizeOf0
  v0 := Tryd.zeroValue0
  i0 := by kernel_rfl
  t5 := Tryd.underlying5
  a5 := Tryd.isAgg5
  z5 := Tryd.sizeOf5
  v5 := Tryd.zeroValue5
  i5 := by kernel_rfl
  t22 := Tryd.underlying22
  a22 := Tryd.isAgg22
  z22 := Tryd.sizeOf22
  v22 := Tryd.zeroValue22
  i22 := by kernel_rfl
  t23 := Tryd.underlying27
  a23 := Tryd.isAgg27
  z23 := Tryd.sizeOf27
  v23 := Tryd.zeroValue27
  i23 := by kernel_rfl
  t37 := Tryd.underlying156
  a37 := Tryd.isAgg156
  z37 := Tryd.sizeOf156
  v37 := Tryd.zeroValue156
  i37 := by kernel_rfl
  t45 := Tryd.underlying145
  a45 := Tryd.isAgg145
  z45 := Tryd.sizeOf145
  v45 := Tryd.zeroValue145
  i45 := by kernel_rfl }
open Go.RowKit in
/-- binary.BigEndian.Uint16: "Uint16 returns the uint16 representation of b[0:2].": THE NUMBER THAT THE FIRST 2 BYTES SPELL, the greatest byte first ('Lib.beNat'). Of what was there nothing has turned (the receiver, an empty struct, is laid in a new block without cells; the statement's order is drawn). (LAID: no walk: one application.) -/
theorem Tryd.binary_BE_Uint16 (g o n c : Nat) (b0 b1 : UInt8) (w : World) (hn : 2 ≤ n) (c0 : w.cell? ⟨g, o, none⟩ = some (.int .u8 b0.toNat)) (c1 : w.cell? ⟨g, o + 1, none⟩ = some (.int .u8 b1.toNat)) :
    Calls Tryd.prog 165 #[.agg #[], .slice (some ⟨g, o, none⟩) n c] w fun e w' => e = .returned (.int .u16 (Lib.beNat [b0, b1])) ∧ Below w.heap.size w w' := Any.binary_BE_Uint16 Tryd.laysBin36 g o n c b0 b1 w hn c0 c1
def Tryd.laysBin39_ren : Go.Shelf.Ren := ⟨fun | 39 => 168 | n => n, fun | 37 => 156 | 22 => 22 | 29 => 78 | 0 => 0 | 5 => 5 | 45 => 145 | n => n, fun | n => n⟩
theorem Tryd.laysBin39 : Go.Proofs.LaysBin.n39 Tryd.prog Tryd.laysBin39_ren := {
  mixed := by kernel_rfl
  f39 := Tryd.func168.trans (congrArg some (by kernel_rfl))
  t0 := Tryd.underlying0
  a0 := Tryd.isAgg0
  z0 := Tryd.sizeOf0
  v0 := Tryd.zeroValue0
  i0 := by kernel_rfl
  t5 := Tryd.underlying5
  a5 := Tryd.isAgg5
  z5 := Tryd.sizeOf5
  v5 := Tryd.zeroValue5
  i5 := by kernel_rfl
  t22 := Tryd.underlying22
  a22 := Tryd.isAgg22
  z22 := Tryd.sizeOf22
  v22 := Tryd.zeroValue22
  i22 := by kernel_rfl
  t29 := Tryd.underlying78
  a29 := Tryd.isAgg78
  z29 := Tryd.sizeOf78
  v29 := Tryd.zeroValue78
  i29 := by kernel_rfl
  t37 := Tryd.underlying156
  a37 := Tryd.isAgg156
  z37 := Tryd.sizeOf156
  v37 := Tryd.zeroValue156
  i37 := by kernel_rfl
  t45 := Tryd.underlying145
  a45 := Tryd.isAgg145
  z45 := Tryd.sizeOf145
  v45 := Tryd.zeroValue145
  i45 := by kernel_rfl }
open Go.RowKit in
/-- binary.BigEndian.Uint32: "Uint32 returns the uint32 representation of b[0:4].": THE NUMBER THAT THE FIRST 4 BYTES SPELL, the greatest byte first ('Lib.beNat'). Of what was there nothing has turned (the receiver, an empty struct, is laid in a new block without cells; the statement's order is drawn). (LAID: no walk: one application.) -/
theorem Tryd.binary_BE_Uint32 (g o n c : Nat) (b0 b1 b2 b3 : UInt8) (w : World) (hn : 4 ≤ n) (c0 : w.cell? ⟨g, o, none⟩ = some (.int .u8 b0.toNat)) (c1 : w.cell? ⟨g, o + 1, none⟩ = some (.int .u8 b1.toNat)) (c2 : w.cell? ⟨g, o + 2, none⟩ = some (.int .u8 b2.toNat)) (c3 : w.cell? ⟨g, o + 3, none⟩ = some (.int .u8 b3.toNat)) :
    Calls Tryd.prog 168 #[.agg #[], .slice (some ⟨g, o, none⟩) n c] w fun e w' => e = .returned (.int .u32 (Lib.beNat [b0, b1, b2, b3])) ∧ Below w.heap.size w w' := Any.binary_BE_Uint32 Tryd.laysBin39 g o n c b0 b1 b2 b3 w hn c0 c1 c2 c3
def Tryd.laysBin42_ren : Go.Shelf.Ren := ⟨fun | 42 => 181 | n => n, fun | 37 => 156 | 22 => 22 | 33 => 106 | 0 => 0 | 5 => 5 | 45 => 145 | n => n, fun | n => n⟩
theorem Tryd.laysBin42 : Go.Proofs.LaysBin.n42 Tryd.prog Tryd.laysBin42_ren := {
  mixed := by kernel_rfl
  f42 := Tryd.func181.trans (congrArg some (by kernel_rfl))
  t0 := Tryd.underlying0
  a0 := Tryd.isAgg0
  z0 := Tryd.sizeOf0
  v0 := Tryd.zeroValue0
  i0 := by kernel_rfl
  t5 := Tryd.underlying5
  a5 := Tryd.isAgg5
  z5 := Tryd.sizeOf5
  v5 := Tryd.zeroValue5
  i5 := by kernel_rfl
  t22 := Tryd.underlying22
  a22 := Tryd.isAgg22
  z22 := Tryd.sizeOf22
  v22 := Tryd.zeroValue22
  i22 := by kernel_rfl
  t33 := Tryd.underlying106
  a33 := Tryd.isAgg106
  z33 := Tryd.sizeOf106
  v33 := Tryd.zeroValue106
  i33 := by kernel_rfl
  t37 := Tryd.underlying156
  a37 := Tryd.isAgg156
  z37 := Tryd.sizeOf156
  v37 := Tryd.zeroValue156
  i37 := by kernel_rfl
  t45 := Tryd.underlying145
  a45 := Tryd.isAgg145
  z45 := Tryd.sizeOf145
  v45 := Tryd.zeroValue145
  i45 := by kernel_rfl }
open Go.RowKit in
/-- binary.BigEndian.Uint64: "Uint64 returns the uint64 representation of b[0:8].": THE NUMBER THAT THE FIRST 8 BYTES SPELL, the greatest byte first ('Lib.beNat'). Of what was there nothing has turned (the receiver, an empty struct, is laid in a new block without cells; the statement's order is drawn). (LAID: no walk: one application.) -/
theorem Tryd.binary_BE_Uint64 (g o n c : Nat) (b0 b1 b2 b3 b4 b5 b6 b7 : UInt8) (w : World) (hn : 8 ≤ n) (c0 : w.cell? ⟨g, o, none⟩ = some (.int .u8 b0.toNat)) (c1 : w.cell? ⟨g, o + 1, none⟩ = some (.int .u8 b1.toNat)) (c2 : w.cell? ⟨g, o + 2, none⟩ = some (.int .u8 b2.toNat)) (c3 : w.cell? ⟨g, o + 3, none⟩ = some (.int .u8 b3.toNat)) (c4 : w.cell? ⟨g, o + 4, none⟩ = some (.int .u8 b4.toNat)) (c5 : w.cell? ⟨g, o + 5, none⟩ = some (.int .u8 b5.toNat)) (c6 : w.cell? ⟨g, o + 6, none⟩ = some (.int .u8 b6.toNat)) (c7 : w.cell? ⟨g, o + 7, none⟩ = some (.int .u8 b7.toNat)) :
    Calls Tryd.prog 181 #[.agg #[], .slice (some ⟨g, o, none⟩) n c] w fun e w' => e = .returned (.int .u64 (Lib.beNat [b0, b1, b2, b3, b4, b5, b6, b7])) ∧ Below w.heap.size w w' := Any.binary_BE_Uint64 Tryd.laysBin42 g o n c b0 b1 b2 b3 b4 b5 b6 b7 w hn c0 c1 c2 c3 c4 c5 c6 c7
def Tryd.laysGg26_ren : Go.Shelf.Ren := ⟨fun | 26 => 192 | n => n, fun | 44 => 178 | 3 => 3 | 0 => 0 | 4 => 4 | 26 => 164 | 37 => 173 | n => n, fun | n => n⟩
theorem Tryd.laysGg26 : Go.Proofs.LaysGg.n26 Tryd.prog Tryd.laysGg26_ren := {
  mixed := by kernel_rfl
  f26 := Tryd.func192.trans (congrArg some (by kernel_rfl))
  t0 := Tryd.underlying0
  a0 := Tryd.isAgg0
  z0 := Tryd.sizeOf0
  v0 := Tryd.zeroValue0
  i0 := by kernel_rfl
  t3 := Tryd.underlying3
  a3 := Tryd.isAgg3
  z3 := Tryd.sizeOf3
  v3 := Tryd.zeroValue3
  i3 := by kernel_rfl
  t4 := Tryd.underlying4
  a4 := Tryd.isAgg4
  z4 := Tryd.sizeOf4
  v4 := Tryd.zeroValue4
  i4 := by kernel_rfl
  t26 := Tryd.underlying164
  a26 := Tryd.isAgg164
  z26 := Tryd.sizeOf164
  v26 := Tryd.zeroValue164
  i26 := by kernel_rfl
  t37 := Tryd.underlying173
  a37 := Tryd.isAgg173
  z37 := Tryd.sizeOf173
  v37 := Tryd.zeroValue173
  i37 := by kernel_rfl
  t44 := Tryd.underlying178
  a44 := Tryd.isAgg178
  z44 := Tryd.sizeOf178
  v44 := Tryd.zeroValue178
  i44 := by kernel_rfl }
open Go.RowKit Go.Lib Go.Sort in
theorem Tryd.insertionSort_func_one {α : Type} [Inhabited α] (enc : α → Value) (lt : α → α → Bool) (g : Nat) (lb : Array Value) (sf : Nat) (sb : Array Value) (blk off a b : Nat) (d : Array α) (w : World) (eg : ∀ args w, (callFunc g args).run Tryd.prog w = .ok (.enter g args) w) (hless : LessReads Tryd.prog g lb enc lt blk off d.size w) (hswap : SwapSwaps Tryd.prog sf sb enc blk off d.size) (hH : Holds enc w blk off d) (hblk : blk < w.heap.size) (hab : a ≤ b) (hb : b ≤ d.size) (hsz : d.size < 4611686018427387904) :
    Calls Tryd.prog 192 #[.agg #[.func (.func g) #[] lb, .func (.func sf) #[] sb], .int .i64 a, .int .i64 b] w fun e w' =>
      e = .returned (.tuple #[]) ∧ ∃ n, w' = putRow enc (Sort.ahead (w.alloc (.cells #[.func (.func g) #[] lb, .func (.func sf) #[] sb] 178)) n) blk off (Sort.insertionSort lt d a b) := Any.insertionSort_func_one Tryd.laysGg26 enc lt g lb sf sb blk off a b d w eg hless hswap hH hblk hab hb hsz
def Tryd.laysGg14_ren : Go.Shelf.Ren := ⟨fun | 14 => 180 | 26 => 192 | 27 => 193 | 28 => 194 | 29 => 195 | 30 => 196 | 31 => 197 | 32 => 198 | 33 => 199 | 34 => 200 | 35 => 201 | 36 => 202 | 37 => 203 | 38 => 204 | 13 => 179 | 39 => 205 | 24 => 171 | 25 => 191 | n => n, fun | 44 => 178 | 3 => 3 | 0 => 0 | 4 => 4 | 54 => 186 | 53 => 185 | 26 => 164 | 58 => 190 | 37 => 173 | 60 => 192 | 41 => 145 | 51 => 106 | 64 => 195 | 66 => 197 | 67 => 198 | 49 => 78 | 5 => 5 | 9 => 9 | n => n, fun | n => n⟩
theorem Tryd.laysGg14 : Go.Proofs.LaysGg.n14 Tryd.prog Tryd.laysGg14_ren := {
  mixed := by kernel_rfl
  f13 := Tryd.func179.trans (congrArg some (by kernel_rfl))
  f14 := Tryd.func180.trans (congrArg some (by kernel_rfl))
  f24 := Tryd.func171.trans (congrArg some (by kernel_rfl))
  f25 := Tryd.func191.trans (congrArg some (by kernel_rfl))
  f26 := Tryd.func192.trans (congrArg some (by kernel_rfl))
  f27 := Tryd.func193.trans (congrArg some (by kernel_rfl))
  f28 := Tryd.func194.trans (congrArg some (by kernel_rfl))
  f29 := Tryd.func195.trans (congrArg some (by kernel_rfl))
  f30 := Tryd.func196.trans (congrArg some (by kernel_rfl))
  f31 := Tryd.func197.trans (congrArg some (by kernel_rfl))
  f32 := Tryd.func198.trans (congrArg some (by kernel_rfl))
  f33 := Tryd.func199.trans (congrArg some (by kernel_rfl))
  f34 := Tryd.func200.trans (congrArg some (by kernel_rfl))
  f35 := Tryd.func201.trans (congrArg some (by kernel_rfl))
  f36 := Tryd.func202.trans (congrArg some (by kernel_rfl))
  f37 := Tryd.func203.trans (congrArg some (by kernel_rfl))
  f38 := Tryd.func204.trans (congrArg some (by kernel_rfl))
  f39 := Tryd.func205.trans (congrArg some (by kernel_rfl))
  t0 := Tryd.underlying0
  a0 := Tryd.isAgg0
  z0 := Tryd.sizeOf0
  v0 := Tryd.zeroValue0
  i0 := by kernel_rfl
  t3 := Tryd.underlying3
  a3 := Tryd.isAgg3
  z3 := Tryd.sizeOf3
  v3 := Tryd.zeroValue3
  i3 := by kernel_rfl
  t4 := Tryd.underlying4
  a4 := Tryd.isAgg4
  z4 := Tryd.sizeOf4
  v4 := Tryd.zeroValue4
  i4 := by kernel_rfl
  t5 := Tryd.underlying5
  a5 := Tryd.isAgg5
  z5 := Tryd.sizeOf5
  v5 := Tryd.zeroValue5
  i5 := by kernel_rfl
  t9 := Tryd.underlying9
  a9 := Tryd.isAgg9
  z9 := Tryd.sizeOf9
  v9 := Tryd.zeroValue9
  i9 := by kernel_rfl
  t26 := Tryd.underlying164
  a26 := Tryd.isAgg164
  z26 := Tryd.sizeOf164
  v26 := Tryd.zeroValue164
  i26 := by kernel_rfl
  t37 := Tryd.underlying173
  a37 := Tryd.isAgg173
  z37 := Tryd.sizeOf173
  v37 := Tryd.zeroValue173
  i37 := by kernel_rfl
  t41 := Tryd.underlying145
  a41 := Tryd.isAgg145
  z41 := Tryd.sizeOf145
  v41 := Tryd.zeroValue145
  i41 := by kernel_rfl
  t44 := Tryd.underlying178
  a44 := Tryd.isAgg178
  z44 := Tryd.sizeOf178
  v44 := Tryd.zeroValue178
  i44 := by kernel_rfl
  t49 := Tryd.underlying78
  a49 := Tryd.isAgg78
  z49 := Tryd.sizeOf78
  v49 := Tryd.zeroValue78
  i49 := by kernel_rfl
  t51 := Tryd.underlying106
  a51 := Tryd.isAgg106
  z51 := Tryd.sizeOf106
  v51 := Tryd.zeroValue106
  i51 := by kernel_rfl
  t53 := Tryd.underlying185
  a53 := Tryd.isAgg185
  z53 := Tryd.sizeOf185
  v53 := Tryd.zeroValue185
  i53 := by kernel_rfl
  t54 := Tryd.underlying186
  a54 := Tryd.isAgg186
  z54 := Tryd.sizeOf186
  v54 := Tryd.zeroValue186
  i54 := by kernel_rfl
  t58 := Tryd.underlying190
  a58 := Tryd.isAgg190
  z58 := Tryd.sizeOf190
  v58 := Tryd.zeroValue190
  i58 := by kernel_rfl
  t60 := Tryd.underlying192
  a60 := Tryd.isAgg192
  z60 := Tryd.sizeOf192
  v60 := Tryd.zeroValue192
  i60 := by kernel_rfl
  t64 := Tryd.underlying195
  a64 := Tryd.isAgg195
  z64 := Tryd.sizeOf195
  v64 := Tryd.zeroValue195
  i64 := by kernel_rfl
  t66 := Tryd.underlying197
  a66 := Tryd.isAgg197
  z66 := Tryd.sizeOf197
  v66 := Tryd.zeroValue197
  i66 := by kernel_rfl
  t67 := Tryd.underlying198
  a67 := Tryd.isAgg198
  z67 := Tryd.sizeOf198
  v67 := Tryd.zeroValue198
  i67 := by kernel_rfl }
open Go.RowKit Go.Lib Go.Sort in
/-- sort.pdqsort_func AT A RANGE OF AT MOST 12. (LAID: no walk: one application.) -/
theorem Tryd.pdqsort_func_small {α : Type} [Inhabited α] (enc : α → Value) (lt : α → α → Bool) (g : Nat) (lb : Array Value) (sf : Nat) (sb : Array Value) (blk off a b : Nat) (lim : Int) (d : Array α) (w : World) (eg : ∀ args w, (callFunc g args).run Tryd.prog w = .ok (.enter g args) w) (hless : LessReads Tryd.prog g lb enc lt blk off d.size w) (hswap : SwapSwaps Tryd.prog sf sb enc blk off d.size) (hH : Holds enc w blk off d) (hblk : blk < w.heap.size) (hab : a ≤ b) (hb : b ≤ d.size) (hsz : d.size < 4611686018427387904) (h12 : b - a ≤ 12) :
    Calls Tryd.prog 180 #[.agg #[.func (.func g) #[] lb, .func (.func sf) #[] sb], .int .i64 a, .int .i64 b, .int .i64 lim] w fun e w' =>
      e = .returned (.tuple #[]) ∧ ∃ n, w' = putRow enc (Sort.ahead ((w.alloc (.cells #[.func (.func g) #[] lb, .func (.func sf) #[] sb] 178)).alloc (.cells #[.func (.func g) #[] lb, .func (.func sf) #[] sb] 178)) n) blk off (Sort.insertionSort lt d a b) := Any.pdqsort_func_small Tryd.laysGg14 enc lt g lb sf sb blk off a b lim d w eg hless hswap hH hblk hab hb hsz h12
def Tryd.laysGg6_ren : Go.Shelf.Ren := ⟨fun | 6 => 172 | 10 => 176 | 11 => 177 | 12 => 178 | 13 => 179 | 14 => 180 | 24 => 171 | 25 => 191 | 26 => 192 | 27 => 193 | 28 => 194 | 29 => 195 | 30 => 196 | 31 => 197 | 32 => 198 | 33 => 199 | 34 => 200 | 35 => 201 | 36 => 202 | 37 => 203 | 38 => 204 | 39 => 205 | n => n, fun | 20 => 20 | 26 => 164 | 35 => 171 | 0 => 0 | 37 => 173 | 3 => 3 | 41 => 145 | 44 => 178 | 49 => 78 | 51 => 106 | 4 => 4 | 54 => 186 | 53 => 185 | 58 => 190 | 5 => 5 | 9 => 9 | 60 => 192 | 64 => 195 | 66 => 197 | 67 => 198 | 17 => 17 | 32 => 168 | 33 => 169 | 82 => 213 | 12 => 12 | 75 => 206 | 76 => 207 | 77 => 208 | 78 => 209 | 79 => 210 | 80 => 211 | n => n, fun | n => n⟩
theorem Tryd.laysGg6 : Go.Proofs.LaysGg.n6 Tryd.prog Tryd.laysGg6_ren := {
  mixed := by kernel_rfl
  f6 := Tryd.func172.trans (congrArg some (by kernel_rfl))
  f10 := Tryd.func176.trans (congrArg some (by kernel_rfl))
  f11 := Tryd.func177.trans (congrArg some (by kernel_rfl))
  f12 := Tryd.func178.trans (congrArg some (by kernel_rfl))
  f13 := Tryd.func179.trans (congrArg some (by kernel_rfl))
  f14 := Tryd.func180.trans (congrArg some (by kernel_rfl))
  f24 := Tryd.func171.trans (congrArg some (by kernel_rfl))
  f25 := Tryd.func191.trans (congrArg some (by kernel_rfl))
  f26 := Tryd.func192.trans (congrArg some (by kernel_rfl))
  f27 := Tryd.func193.trans (congrArg some (by kernel_rfl))
  f28 := Tryd.func194.trans (congrArg some (by kernel_rfl))
  f29 := Tryd.func195.trans (congrArg some (by kernel_rfl))
  f30 := Tryd.func196.trans (congrArg some (by kernel_rfl))
  f31 := Tryd.func197.trans (congrArg some (by kernel_rfl))
  f32 := Tryd.func198.trans (congrArg some (by kernel_rfl))
  f33 := Tryd.func199.trans (congrArg some (by kernel_rfl))
  f34 := Tryd.func200.trans (congrArg some (by kernel_rfl))
  f35 := Tryd.func201.trans (congrArg some (by kernel_rfl))
  f36 := Tryd.func202.trans (congrArg some (by kernel_rfl))
  f37 := Tryd.func203.trans (congrArg some (by kernel_rfl))
  f38 := Tryd.func204.trans (congrArg some (by kernel_rfl))
  f39 := Tryd.func205.trans (congrArg some (by kernel_rfl))
  t0 := Tryd.underlying0
  a0 := Tryd.isAgg0
  z0 := Tryd.sizeOf0
  v0 := Tryd.zeroValue0
  i0 := by kernel_rfl
  t3 := Tryd.underlying3
  a3 := Tryd.isAgg3
  z3 := Tryd.sizeOf3
  v3 := Tryd.zeroValue3
  i3 := by kernel_rfl
  t4 := Tryd.underlying4
  a4 := Tryd.isAgg4
  z4 := Tryd.sizeOf4
  v4 := Tryd.zeroValue4
  i4 := by kernel_rfl
  t5 := Tryd.underlying5
  a5 := Tryd.isAgg5
  z5 := Tryd.sizeOf5
  v5 := Tryd.zeroValue5
  i5 := by kernel_rfl
  t9 := Tryd.underlying9
  a9 := Tryd.isAgg9
  z9 := Tryd.sizeOf9
  v9 := Tryd.zeroValue9
  i9 := by kernel_rfl
  t12 := Tryd.underlying12
  a12 := Tryd.isAgg12
  z12 := Tryd.sizeOf12
  v12 := Tryd.zeroValue12
  i12 := by kernel_rfl
  t17 := Tryd.underlying17
  a17 := Tryd.isAgg17
  z17 := Tryd.sizeOf17
  v17 := Tryd.zeroValue17
  i17 := by kernel_rfl
  t20 := Tryd.underlying20
  a20 := Tryd.isAgg20
  z20 := Tryd.sizeOf20
  v20 := Tryd.zeroValue20
  i20 := by kernel_rfl
  t26 := Tryd.underlying164
  a26 := Tryd.isAgg164
  z26 := Tryd.sizeOf164
  v26 := Tryd.zeroValue164
  i26 := by kernel_rfl
  t32 := Tryd.underlying168
  a32 := Tryd.isAgg168
  z32 := Tryd.sizeOf168
  v32 := Tryd.zeroValue168
  i32 := by kernel_rfl
  t33 := Tryd.underlying169
  a33 := Tryd.isAgg169
  z33 := Tryd.sizeOf169
  v33 := Tryd.zeroValue169
  i33 := by kernel_rfl
  t35 := Tryd.underlying171
  a35 := Tryd.isAgg171
  z35 := Tryd.sizeOf171
  v35 := Tryd.zeroValue171
  i35 := by kernel_rfl
  t37 := Tryd.underlying173
  a37 := Tryd.isAgg173
  z37 := Tryd.sizeOf173
  v37 := Tryd.zeroValue173
  i37 := by kernel_rfl
  t41 := Tryd.underlying145
  a41 := Tryd.isAgg145
  z41 := Tryd.sizeOf145
  v41 := Tryd.zeroValue145
  i41 := by kernel_rfl
  t44 := Tryd.underlying178
  a44 := Tryd.isAgg178
  z44 := Tryd.sizeOf178
  v44 := Tryd.zeroValue178
  i44 := by kernel_rfl
  t49 := Tryd.underlying78
  a49 := Tryd.isAgg78
  z49 := Tryd.sizeOf78
  v49 := Tryd.zeroValue78
  i49 := by kernel_rfl
  t51 := Tryd.underlying106
  a51 := Tryd.isAgg106
  z51 := Tryd.sizeOf106
  v51 := Tryd.zeroValue106
  i51 := by kernel_rfl
  t53 := Tryd.underlying185
  a53 := Tryd.isAgg185
  z53 := Tryd.sizeOf185
  v53 := Tryd.zeroValue185
  i53 := by kernel_rfl
  t54 := Tryd.underlying186
  a54 := Tryd.isAgg186
  z54 := Tryd.sizeOf186
  v54 := Tryd.zeroValue186
  i54 := by kernel_rfl
  t58 := Tryd.underlying190
  a58 := Tryd.isAgg190
  z58 := Tryd.sizeOf190
  v58 := Tryd.zeroValue190
  i58 := by kernel_rfl
  t60 := Tryd.underlying192
  a60 := Tryd.isAgg192
  z60 := Tryd.sizeOf192
  v60 := Tryd.zeroValue192
  i60 := by kernel_rfl
  t64 := Tryd.underlying195
  a64 := Tryd.isAgg195
  z64 := Tryd.sizeOf195
  v64 := Tryd.zeroValue195
  i64 := by kernel_rfl
  t66 := Tryd.underlying197
  a66 := Tryd.isAgg197
  z66 := Tryd.sizeOf197
  v66 := Tryd.zeroValue197
  i66 := by kernel_rfl
  t67 := Tryd.underlying198
  a67 := Tryd.isAgg198
  z67 := Tryd.sizeOf198
  v67 := Tryd.zeroValue198
  i67 := by kernel_rfl
  t75 := Tryd.underlying206
  a75 := Tryd.isAgg206
  z75 := Tryd.sizeOf206
  v75 := Tryd.zeroValue206
  i75 := by kernel_rfl
  t76 := Tryd.underlying207
  a76 := Tryd.isAgg207
  z76 := Tryd.sizeOf207
  v76 := Tryd.zeroValue207
  i76 := by kernel_rfl
  t77 := Tryd.underlying208
  a77 := Tryd.isAgg208
  z77 := Tryd.sizeOf208
  v77 := Tryd.zeroValue208
  i77 := by kernel_rfl
  t78 := Tryd.underlying209
  a78 := Tryd.isAgg209
  z78 := Tryd.sizeOf209
  v78 := Tryd.zeroValue209
  i78 := by kernel_rfl
  t79 := Tryd.underlying210
  a79 := Tryd.isAgg210
  z79 := Tryd.sizeOf210
  v79 := Tryd.zeroValue210
  i79 := by kernel_rfl
  t80 := Tryd.underlying211
  a80 := Tryd.isAgg211
  z80 := Tryd.sizeOf211
  v80 := Tryd.zeroValue211
  i80 := by kernel_rfl
  t82 := Tryd.underlying213
  a82 := Tryd.isAgg213
  z82 := Tryd.sizeOf213
  v82 := Tryd.zeroValue213
  i82 := by kernel_rfl }
open Go.RowKit Go.Lib Go.Sort in
theorem Tryd.insertionSort_func_none (lf : Fn) (la lb : Array Value) (f : Nat) (sb : Array Value) (a b : Nat) (h : b ≤ a + 1) (ha : a < 4611686018427387904) (w : World) :
    Calls Tryd.prog 192 #[.agg #[.func lf la lb, .func (.func f) #[] sb], .int .i64 a, .int .i64 b] w fun e w' => e = .returned (.tuple #[]) ∧ w' = w.alloc (.cells #[.func lf la lb, .func (.func f) #[] sb] 178) := Any.insertionSort_func_none Tryd.laysGg26 lf la lb f sb a b h ha w
open Go.RowKit Go.Lib Go.Sort in
theorem Tryd.pdqsort_func_tiny (lf : Fn) (la lb : Array Value) (f : Nat) (sb : Array Value) (n : Nat) (h : n ≤ 1) (lim : Int) (w : World) :
    Calls Tryd.prog 180 #[.agg #[.func lf la lb, .func (.func f) #[] sb], .int .i64 0, .int .i64 n, .int .i64 lim] w fun e w' => e = .returned (.tuple #[]) ∧ w' = (w.alloc (.cells #[.func lf la lb, .func (.func f) #[] sb] 178)).alloc (.cells #[.func lf la lb, .func (.func f) #[] sb] 178) := Any.pdqsort_func_tiny Tryd.laysGg14 lf la lb f sb n h lim w
open Go.RowKit Go.Lib Go.Sort in
/-- sort.insertionSort_func, from a world to a 'sortWorld' of it. (LAID: no walk: one application.) -/
theorem Tryd.insertionSort_func_w {α : Type} [Inhabited α] (enc : α → Value) (lt : α → α → Bool) (g : Nat) (lb : Array Value) (sf : Nat) (sb : Array Value) (blk off a b : Nat) (d : Array α) (w : World) (eg : ∀ args w, (callFunc g args).run Tryd.prog w = .ok (.enter g args) w) (hless : LessReads Tryd.prog g lb enc lt blk off d.size w) (hswap : SwapSwaps Tryd.prog sf sb enc blk off d.size) (hH : Holds enc w blk off d) (hblk : blk < w.heap.size) (hab : a ≤ b) (hb : b ≤ d.size) (hsz : d.size < 4611686018427387904) :
    Calls Tryd.prog 192 #[.agg #[.func (.func g) #[] lb, .func (.func sf) #[] sb], .int .i64 a, .int .i64 b] w fun e w' => e = .returned (.tuple #[]) ∧ ∃ n os, w' = sortWorld enc w blk off n (Sort.insertionSort lt d a b) os := Any.insertionSort_func_w Tryd.laysGg26 enc lt g lb sf sb blk off a b d w eg hless hswap hH hblk hab hb hsz
def Tryd.laysGg30_ren : Go.Shelf.Ren := ⟨fun | 30 => 196 | n => n, fun | 44 => 178 | 3 => 3 | 0 => 0 | 4 => 4 | 37 => 173 | 26 => 164 | n => n, fun | n => n⟩
theorem Tryd.laysGg30 : Go.Proofs.LaysGg.n30 Tryd.prog Tryd.laysGg30_ren := {
  mixed := by kernel_rfl
  f30 := Tryd.func196.trans (congrArg some (by kernel_rfl))
  t0 := Tryd.underlying0
  a0 := Tryd.isAgg0
  z0 := Tryd.sizeOf0
  v0 := Tryd.zeroValue0
  i0 := by kernel_rfl
  t3 := Tryd.underlying3
  a3 := Tryd.isAgg3
  z3 := Tryd.sizeOf3
  v3 := Tryd.zeroValue3
  i3 := by kernel_rfl
  t4 := Tryd.underlying4
  a4 := Tryd.isAgg4
  z4 := Tryd.sizeOf4
  v4 := Tryd.zeroValue4
  i4 := by kernel_rfl
  t26 := Tryd.underlying164
  a26 := Tryd.isAgg164
  z26 := Tryd.sizeOf164
  v26 := Tryd.zeroValue164
  i26 := by kernel_rfl
  t37 := Tryd.underlying173
  a37 := Tryd.isAgg173
  z37 := Tryd.sizeOf173
  v37 := Tryd.zeroValue173
  i37 := by kernel_rfl
  t44 := Tryd.underlying178
  a44 := Tryd.isAgg178
  z44 := Tryd.sizeOf178
  v44 := Tryd.zeroValue178
  i44 := by kernel_rfl }
open Go.RowKit Go.Lib Go.Sort in
theorem Tryd.reverseRange_func_one {α : Type} [Inhabited α] (enc : α → Value) (lf : Fn) (la lb : Array Value) (sf : Nat) (sb : Array Value) (blk off a b : Nat) (d : Array α) (w : World) (hswap : SwapSwaps Tryd.prog sf sb enc blk off d.size) (hH : Holds enc w blk off d) (hblk : blk < w.heap.size) (hab : a ≤ b) (hb : b ≤ d.size) (hsz : d.size < 4611686018427387904) :
    Calls Tryd.prog 196 #[.agg #[.func lf la lb, .func (.func sf) #[] sb], .int .i64 a, .int .i64 b] w fun e w' => e = .returned (.tuple #[]) ∧ ∃ n, w' = putRow enc (Sort.ahead (w.alloc (.cells #[.func lf la lb, .func (.func sf) #[] sb] 178)) n) blk off (reverseRange d a b) := Any.reverseRange_func_one Tryd.laysGg30 enc lf la lb sf sb blk off a b d w hswap hH hblk hab hb hsz
open Go.RowKit Go.Lib Go.Sort in
/-- sort.reverseRange_func, from a world to a 'sortWorld' of it. (LAID: no walk: one application.) -/
theorem Tryd.reverseRange_func_w {α : Type} [Inhabited α] (enc : α → Value) (lf : Fn) (la lb : Array Value) (sf : Nat) (sb : Array Value) (blk off a b : Nat) (d : Array α) (w : World) (hswap : SwapSwaps Tryd.prog sf sb enc blk off d.size) (hH : Holds enc w blk off d) (hblk : blk < w.heap.size) (hab : a ≤ b) (hb : b ≤ d.size) (hsz : d.size < 4611686018427387904) :
    Calls Tryd.prog 196 #[.agg #[.func lf la lb, .func (.func sf) #[] sb], .int .i64 a, .int .i64 b] w fun e w' => e = .returned (.tuple #[]) ∧ ∃ n os, w' = sortWorld enc w blk off n (reverseRange d a b) os := Any.reverseRange_func_w Tryd.laysGg30 enc lf la lb sf sb blk off a b d w hswap hH hblk hab hb hsz
def Tryd.laysGg39_ren : Go.Shelf.Ren := ⟨fun | 39 => 205 | n => n, fun | 44 => 178 | 3 => 3 | 64 => 195 | 0 => 0 | 26 => 164 | 4 => 4 | 37 => 173 | n => n, fun | n => n⟩
theorem Tryd.laysGg39 : Go.Proofs.LaysGg.n39 Tryd.prog Tryd.laysGg39_ren := {
  mixed := by kernel_rfl
  f39 := Tryd.func205.trans (congrArg some (by kernel_rfl))
  t0 := Tryd.underlying0
  a0 := Tryd.isAgg0
  z0 := Tryd.sizeOf0
  v0 := Tryd.zeroValue0
  i0 := by kernel_rfl
  t3 := Tryd.underlying3
  a3 := Tryd.isAgg3
  z3 := Tryd.sizeOf3
  v3 := Tryd.zeroValue3
  i3 := by kernel_rfl
  t4 := Tryd.underlying4
  a4 := Tryd.isAgg4
  z4 := Tryd.sizeOf4
  v4 := Tryd.zeroValue4
  i4 := by kernel_rfl
  t26 := Tryd.underlying164
  a26 := Tryd.isAgg164
  z26 := Tryd.sizeOf164
  v26 := Tryd.zeroValue164
  i26 := by kernel_rfl
  t37 := Tryd.underlying173
  a37 := Tryd.isAgg173
  z37 := Tryd.sizeOf173
  v37 := Tryd.zeroValue173
  i37 := by kernel_rfl
  t44 := Tryd.underlying178
  a44 := Tryd.isAgg178
  z44 := Tryd.sizeOf178
  v44 := Tryd.zeroValue178
  i44 := by kernel_rfl
  t64 := Tryd.underlying195
  a64 := Tryd.isAgg195
  z64 := Tryd.sizeOf195
  v64 := Tryd.zeroValue195
  i64 := by kernel_rfl }
open Go.RowKit Go.Lib Go.Sort in
theorem Tryd.order2_func {α : Type} [Inhabited α] (enc : α → Value) (lt : α → α → Bool) (g : Nat) (lb : Array Value) (sfn : Fn) (sa sb : Array Value) (blk off : Nat) (w0 W : World) (d : Array α) (a b cb co s : Nat) (eg : ∀ args w, (callFunc g args).run Tryd.prog w = .ok (.enter g args) w) (hL : LessReads Tryd.prog g lb enc lt blk off d.size w0) (hW : SW enc w0 blk off d W) (ha : a < d.size) (hb : b < d.size) (hS : Holds (Value.int .i64) W cb co (one s)) (hcb : cb < W.heap.size) (hs : s < 4611686018427387904) :
    Calls Tryd.prog 205 #[.agg #[.func (.func g) #[] lb, .func sfn sa sb], .int .i64 a, .int .i64 b, .pointer (some ⟨cb, co, none⟩)] W fun e w' =>
      e = .returned (.tuple #[.int .i64 (order2 lt d a b s).1, .int .i64 (order2 lt d a b s).2.1]) ∧ ∃ n os, w' = sortWorld (Value.int .i64) W cb co n (one (order2 lt d a b s).2.2) os := Any.order2_func Tryd.laysGg39 enc lt g lb sfn sa sb blk off w0 W d a b cb co s eg hL hW ha hb hS hcb hs
def Tryd.laysGg38_ren : Go.Shelf.Ren := ⟨fun | 38 => 204 | 39 => 205 | n => n, fun | 44 => 178 | 3 => 3 | 64 => 195 | 0 => 0 | 67 => 198 | 26 => 164 | 4 => 4 | 37 => 173 | n => n, fun | n => n⟩
theorem Tryd.laysGg38 : Go.Proofs.LaysGg.n38 Tryd.prog Tryd.laysGg38_ren := {
  mixed := by kernel_rfl
  f38 := Tryd.func204.trans (congrArg some (by kernel_rfl))
  f39 := Tryd.func205.trans (congrArg some (by kernel_rfl))
  t0 := Tryd.underlying0
  a0 := Tryd.isAgg0
  z0 := Tryd.sizeOf0
  v0 := Tryd.zeroValue0
  i0 := by kernel_rfl
  t3 := Tryd.underlying3
  a3 := Tryd.isAgg3
  z3 := Tryd.sizeOf3
  v3 := Tryd.zeroValue3
  i3 := by kernel_rfl
  t4 := Tryd.underlying4
  a4 := Tryd.isAgg4
  z4 := Tryd.sizeOf4
  v4 := Tryd.zeroValue4
  i4 := by kernel_rfl
  t26 := Tryd.underlying164
  a26 := Tryd.isAgg164
  z26 := Tryd.sizeOf164
  v26 := Tryd.zeroValue164
  i26 := by kernel_rfl
  t37 := Tryd.underlying173
  a37 := Tryd.isAgg173
  z37 := Tryd.sizeOf173
  v37 := Tryd.zeroValue173
  i37 := by kernel_rfl
  t44 := Tryd.underlying178
  a44 := Tryd.isAgg178
  z44 := Tryd.sizeOf178
  v44 := Tryd.zeroValue178
  i44 := by kernel_rfl
  t64 := Tryd.underlying195
  a64 := Tryd.isAgg195
  z64 := Tryd.sizeOf195
  v64 := Tryd.zeroValue195
  i64 := by kernel_rfl
  t67 := Tryd.underlying198
  a67 := Tryd.isAgg198
  z67 := Tryd.sizeOf198
  v67 := Tryd.zeroValue198
  i67 := by kernel_rfl }
open Go.RowKit Go.Lib Go.Sort in
theorem Tryd.median_func {α : Type} [Inhabited α] (enc : α → Value) (lt : α → α → Bool) (g : Nat) (lb : Array Value) (sfn : Fn) (sa sb : Array Value) (blk off : Nat) (w0 W : World) (d : Array α) (a b c cb co s : Nat) (eg : ∀ args w, (callFunc g args).run Tryd.prog w = .ok (.enter g args) w) (hL : LessReads Tryd.prog g lb enc lt blk off d.size w0) (hW : SW enc w0 blk off d W) (ha : a < d.size) (hb : b < d.size) (hc : c < d.size) (hS : Holds (Value.int .i64) W cb co (one s)) (hcb0 : w0.heap.size ≤ cb) (hcb : cb < W.heap.size) (hs : s + 3 < 4611686018427387904) :
    Calls Tryd.prog 204 #[.agg #[.func (.func g) #[] lb, .func sfn sa sb], .int .i64 a, .int .i64 b, .int .i64 c, .pointer (some ⟨cb, co, none⟩)] W fun e w' =>
      e = .returned (.int .i64 (median lt d a b c s).1) ∧ ∃ n os, w' = sortWorld (Value.int .i64) W cb co n (one (median lt d a b c s).2) os := Any.median_func Tryd.laysGg38 enc lt g lb sfn sa sb blk off w0 W d a b c cb co s eg hL hW ha hb hc hS hcb0 hcb hs
def Tryd.laysGg37_ren : Go.Shelf.Ren := ⟨fun | 37 => 203 | 38 => 204 | 39 => 205 | n => n, fun | 44 => 178 | 3 => 3 | 64 => 195 | 0 => 0 | 67 => 198 | 26 => 164 | 4 => 4 | 37 => 173 | n => n, fun | n => n⟩
theorem Tryd.laysGg37 : Go.Proofs.LaysGg.n37 Tryd.prog Tryd.laysGg37_ren := {
  mixed := by kernel_rfl
  f37 := Tryd.func203.trans (congrArg some (by kernel_rfl))
  f38 := Tryd.func204.trans (congrArg some (by kernel_rfl))
  f39 := Tryd.func205.trans (congrArg some (by kernel_rfl))
  t0 := Tryd.underlying0
  a0 := Tryd.isAgg0
  z0 := Tryd.sizeOf0
  v0 := Tryd.zeroValue0
  i0 := by kernel_rfl
  t3 := Tryd.underlying3
  a3 := Tryd.isAgg3
  z3 := Tryd.sizeOf3
  v3 := Tryd.zeroValue3
  i3 := by kernel_rfl
  t4 := Tryd.underlying4
  a4 := Tryd.isAgg4
  z4 := Tryd.sizeOf4
  v4 := Tryd.zeroValue4
  i4 := by kernel_rfl
  t26 := Tryd.underlying164
  a26 := Tryd.isAgg164
  z26 := Tryd.sizeOf164
  v26 := Tryd.zeroValue164
  i26 := by kernel_rfl
  t37 := Tryd.underlying173
  a37 := Tryd.isAgg173
  z37 := Tryd.sizeOf173
  v37 := Tryd.zeroValue173
  i37 := by kernel_rfl
  t44 := Tryd.underlying178
  a44 := Tryd.isAgg178
  z44 := Tryd.sizeOf178
  v44 := Tryd.zeroValue178
  i44 := by kernel_rfl
  t64 := Tryd.underlying195
  a64 := Tryd.isAgg195
  z64 := Tryd.sizeOf195
  v64 := Tryd.zeroValue195
  i64 := by kernel_rfl
  t67 := Tryd.underlying198
  a67 := Tryd.isAgg198
  z67 := Tryd.sizeOf198
  v67 := Tryd.zeroValue198
  i67 := by kernel_rfl }
open Go.RowKit Go.Lib Go.Sort in
theorem Tryd.medianAdjacent_func {α : Type} [Inhabited α] (enc : α → Value) (lt : α → α → Bool) (g : Nat) (lb : Array Value) (sfn : Fn) (sa sb : Array Value) (blk off : Nat) (w0 W : World) (d : Array α) (a cb co s : Nat) (eg : ∀ args w, (callFunc g args).run Tryd.prog w = .ok (.enter g args) w) (hL : LessReads Tryd.prog g lb enc lt blk off d.size w0) (hW : SW enc w0 blk off d W) (ha1 : 1 ≤ a) (ha2 : a + 1 < d.size) (hsz : d.size < 4611686018427387904) (hS : Holds (Value.int .i64) W cb co (one s)) (hcb0 : w0.heap.size ≤ cb) (hcb : cb < W.heap.size) (hs : s + 3 < 4611686018427387904) :
    Calls Tryd.prog 203 #[.agg #[.func (.func g) #[] lb, .func sfn sa sb], .int .i64 a, .pointer (some ⟨cb, co, none⟩)] W fun e w' =>
      e = .returned (.int .i64 (medianAdjacent lt d a s).1) ∧ ∃ n os, w' = sortWorld (Value.int .i64) W cb co n (one (medianAdjacent lt d a s).2) os := Any.medianAdjacent_func Tryd.laysGg37 enc lt g lb sfn sa sb blk off w0 W d a cb co s eg hL hW ha1 ha2 hsz hS hcb0 hcb hs
def Tryd.laysGg29_ren : Go.Shelf.Ren := ⟨fun | 29 => 195 | 37 => 203 | 38 => 204 | 39 => 205 | n => n, fun | 44 => 178 | 3 => 3 | 53 => 185 | 0 => 0 | 4 => 4 | 64 => 195 | 67 => 198 | 26 => 164 | 37 => 173 | n => n, fun | n => n⟩
theorem Tryd.laysGg29 : Go.Proofs.LaysGg.n29 Tryd.prog Tryd.laysGg29_ren := {
  mixed := by kernel_rfl
  f29 := Tryd.func195.trans (congrArg some (by kernel_rfl))
  f37 := Tryd.func203.trans (congrArg some (by kernel_rfl))
  f38 := Tryd.func204.trans (congrArg some (by kernel_rfl))
  f39 := Tryd.func205.trans (congrArg some (by kernel_rfl))
  t0 := Tryd.underlying0
  a0 := Tryd.isAgg0
  z0 := Tryd.sizeOf0
  v0 := Tryd.zeroValue0
  i0 := by kernel_rfl
  t3 := Tryd.underlying3
  a3 := Tryd.isAgg3
  z3 := Tryd.sizeOf3
  v3 := Tryd.zeroValue3
  i3 := by kernel_rfl
  t4 := Tryd.underlying4
  a4 := Tryd.isAgg4
  z4 := Tryd.sizeOf4
  v4 := Tryd.zeroValue4
  i4 := by kernel_rfl
  t26 := Tryd.underlying164
  a26 := Tryd.isAgg164
  z26 := Tryd.sizeOf164
  v26 := Tryd.zeroValue164
  i26 := by kernel_rfl
  t37 := Tryd.underlying173
  a37 := Tryd.isAgg173
  z37 := Tryd.sizeOf173
  v37 := Tryd.zeroValue173
  i37 := by kernel_rfl
  t44 := Tryd.underlying178
  a44 := Tryd.isAgg178
  z44 := Tryd.sizeOf178
  v44 := Tryd.zeroValue178
  i44 := by kernel_rfl
  t53 := Tryd.underlying185
  a53 := Tryd.isAgg185
  z53 := Tryd.sizeOf185
  v53 := Tryd.zeroValue185
  i53 := by kernel_rfl
  t64 := Tryd.underlying195
  a64 := Tryd.isAgg195
  z64 := Tryd.sizeOf195
  v64 := Tryd.zeroValue195
  i64 := by kernel_rfl
  t67 := Tryd.underlying198
  a67 := Tryd.isAgg198
  z67 := Tryd.sizeOf198
  v67 := Tryd.zeroValue198
  i67 := by kernel_rfl }
open Go.RowKit Go.Lib Go.Sort in
/-- sort.choosePivot_func: THE LIBRARY's OWN TEXT COMPUTES 'Sort.choosePivot lt d a b'; the row is not turned; W is grown. (After Derived/Sort/Walk11.lean's 'So.choosePivot_int', row for row.) (LAID: no walk: one application.) -/
theorem Tryd.choosePivot_func {α : Type} [Inhabited α] (enc : α → Value) (lt : α → α → Bool) (g : Nat) (lb : Array Value) (sfn : Fn) (sa sb : Array Value) (blk off a b : Nat) (W : World) (d : Array α) (eg : ∀ args w, (callFunc g args).run Tryd.prog w = .ok (.enter g args) w) (hless : LessReads Tryd.prog g lb enc lt blk off d.size W) (hH : Holds enc W blk off d) (hab : a < b) (hb : b ≤ d.size) (hsz : d.size < 4611686018427387904) :
    Calls Tryd.prog 195 #[.agg #[.func (.func g) #[] lb, .func sfn sa sb], .int .i64 a, .int .i64 b] W fun e w' =>
      e = .returned (.tuple #[.int .i64 (choosePivot lt d a b).1, .int .i64 (hintCode (choosePivot lt d a b).2)]) ∧ ∃ n os, w' = grow (Sort.ahead W n) os := Any.choosePivot_func Tryd.laysGg29 enc lt g lb sfn sa sb blk off a b W d eg hless hH hab hb hsz
def Tryd.laysGg32_ren : Go.Shelf.Ren := ⟨fun | 32 => 198 | n => n, fun | 44 => 178 | 3 => 3 | 0 => 0 | 37 => 173 | 4 => 4 | 26 => 164 | n => n, fun | n => n⟩
theorem Tryd.laysGg32 : Go.Proofs.LaysGg.n32 Tryd.prog Tryd.laysGg32_ren := {
  mixed := by kernel_rfl
  f32 := Tryd.func198.trans (congrArg some (by kernel_rfl))
  t0 := Tryd.underlying0
  a0 := Tryd.isAgg0
  z0 := Tryd.sizeOf0
  v0 := Tryd.zeroValue0
  i0 := by kernel_rfl
  t3 := Tryd.underlying3
  a3 := Tryd.isAgg3
  z3 := Tryd.sizeOf3
  v3 := Tryd.zeroValue3
  i3 := by kernel_rfl
  t4 := Tryd.underlying4
  a4 := Tryd.isAgg4
  z4 := Tryd.sizeOf4
  v4 := Tryd.zeroValue4
  i4 := by kernel_rfl
  t26 := Tryd.underlying164
  a26 := Tryd.isAgg164
  z26 := Tryd.sizeOf164
  v26 := Tryd.zeroValue164
  i26 := by kernel_rfl
  t37 := Tryd.underlying173
  a37 := Tryd.isAgg173
  z37 := Tryd.sizeOf173
  v37 := Tryd.zeroValue173
  i37 := by kernel_rfl
  t44 := Tryd.underlying178
  a44 := Tryd.isAgg178
  z44 := Tryd.sizeOf178
  v44 := Tryd.zeroValue178
  i44 := by kernel_rfl }
open Go.RowKit Go.Lib Go.Sort in
theorem Tryd.partitionEqual_func_one {α : Type} [Inhabited α] (enc : α → Value) (lt : α → α → Bool) (g : Nat) (lb : Array Value) (sf : Nat) (sb : Array Value) (blk off a b pivot : Nat) (d : Array α) (W : World) (eg : ∀ args w, (callFunc g args).run Tryd.prog w = .ok (.enter g args) w) (hless : LessReads Tryd.prog g lb enc lt blk off d.size W) (hswap : SwapSwaps Tryd.prog sf sb enc blk off d.size) (hH : Holds enc W blk off d) (hblk : blk < W.heap.size) (hap : a ≤ pivot) (hpb : pivot < b) (hb : b ≤ d.size) (hsz : d.size < 4611686018427387904) :
    Calls Tryd.prog 198 #[.agg #[.func (.func g) #[] lb, .func (.func sf) #[] sb], .int .i64 a, .int .i64 b, .int .i64 pivot] W fun e w' =>
      e = .returned (.int .i64 (Sort.partitionEqual lt d a b pivot).1) ∧ ∃ n, w' = (putRow enc (W.alloc (.cells #[.func (.func g) #[] lb, .func (.func sf) #[] sb] 178)) blk off (Sort.partitionEqual lt d a b pivot).2).drewN n := Any.partitionEqual_func_one Tryd.laysGg32 enc lt g lb sf sb blk off a b pivot d W eg hless hswap hH hblk hap hpb hb hsz
def Tryd.laysGg33_ren : Go.Shelf.Ren := ⟨fun | 33 => 199 | n => n, fun | 44 => 178 | 3 => 3 | 4 => 4 | 0 => 0 | 37 => 173 | 26 => 164 | n => n, fun | n => n⟩
theorem Tryd.laysGg33 : Go.Proofs.LaysGg.n33 Tryd.prog Tryd.laysGg33_ren := {
  mixed := by kernel_rfl
  f33 := Tryd.func199.trans (congrArg some (by kernel_rfl))
  t0 := Tryd.underlying0
  a0 := Tryd.isAgg0
  z0 := Tryd.sizeOf0
  v0 := Tryd.zeroValue0
  i0 := by kernel_rfl
  t3 := Tryd.underlying3
  a3 := Tryd.isAgg3
  z3 := Tryd.sizeOf3
  v3 := Tryd.zeroValue3
  i3 := by kernel_rfl
  t4 := Tryd.underlying4
  a4 := Tryd.isAgg4
  z4 := Tryd.sizeOf4
  v4 := Tryd.zeroValue4
  i4 := by kernel_rfl
  t26 := Tryd.underlying164
  a26 := Tryd.isAgg164
  z26 := Tryd.sizeOf164
  v26 := Tryd.zeroValue164
  i26 := by kernel_rfl
  t37 := Tryd.underlying173
  a37 := Tryd.isAgg173
  z37 := Tryd.sizeOf173
  v37 := Tryd.zeroValue173
  i37 := by kernel_rfl
  t44 := Tryd.underlying178
  a44 := Tryd.isAgg178
  z44 := Tryd.sizeOf178
  v44 := Tryd.zeroValue178
  i44 := by kernel_rfl }
open Go.RowKit Go.Lib Go.Sort in
theorem Tryd.partition_func_one {α : Type} [Inhabited α] (enc : α → Value) (lt : α → α → Bool) (g : Nat) (lb : Array Value) (sf : Nat) (sb : Array Value) (blk off a b pivot : Nat) (d : Array α) (W : World) (eg : ∀ args w, (callFunc g args).run Tryd.prog w = .ok (.enter g args) w) (hless : LessReads Tryd.prog g lb enc lt blk off d.size W) (hswap : SwapSwaps Tryd.prog sf sb enc blk off d.size) (hH : Holds enc W blk off d) (hblk : blk < W.heap.size) (hap : a ≤ pivot) (hpb : pivot < b) (hb : b ≤ d.size) (hsz : d.size < 4611686018427387904) :
    Calls Tryd.prog 199 #[.agg #[.func (.func g) #[] lb, .func (.func sf) #[] sb], .int .i64 a, .int .i64 b, .int .i64 pivot] W fun e w' =>
      e = .returned (.tuple #[.int .i64 (Sort.partition lt d a b pivot).1, .bool (Sort.partition lt d a b pivot).2.1]) ∧ ∃ n, w' = (putRow enc (W.alloc (.cells #[.func (.func g) #[] lb, .func (.func sf) #[] sb] 178)) blk off (Sort.partition lt d a b pivot).2.2).drewN n := Any.partition_func_one Tryd.laysGg33 enc lt g lb sf sb blk off a b pivot d W eg hless hswap hH hblk hap hpb hb hsz
open Go.RowKit Go.Lib Go.Sort in
/-- sort.partitionEqual_func, from a world to a 'sortWorld' of it. (LAID: no walk: one application.) -/
theorem Tryd.partitionEqual_func_w {α : Type} [Inhabited α] (enc : α → Value) (lt : α → α → Bool) (g : Nat) (lb : Array Value) (sf : Nat) (sb : Array Value) (blk off a b pivot : Nat) (d : Array α) (W : World) (eg : ∀ args w, (callFunc g args).run Tryd.prog w = .ok (.enter g args) w) (hless : LessReads Tryd.prog g lb enc lt blk off d.size W) (hswap : SwapSwaps Tryd.prog sf sb enc blk off d.size) (hH : Holds enc W blk off d) (hblk : blk < W.heap.size) (hap : a ≤ pivot) (hpb : pivot < b) (hb : b ≤ d.size) (hsz : d.size < 4611686018427387904) :
    Calls Tryd.prog 198 #[.agg #[.func (.func g) #[] lb, .func (.func sf) #[] sb], .int .i64 a, .int .i64 b, .int .i64 pivot] W fun e w' => e = .returned (.int .i64 (Sort.partitionEqual lt d a b pivot).1) ∧ ∃ n os, w' = sortWorld enc W blk off n (Sort.partitionEqual lt d a b pivot).2 os := Any.partitionEqual_func_w Tryd.laysGg32 enc lt g lb sf sb blk off a b pivot d W eg hless hswap hH hblk hap hpb hb hsz
open Go.RowKit Go.Lib Go.Sort in
/-- sort.partition_func, from a world to a 'sortWorld' of it. (LAID: no walk: one application.) -/
theorem Tryd.partition_func_w {α : Type} [Inhabited α] (enc : α → Value) (lt : α → α → Bool) (g : Nat) (lb : Array Value) (sf : Nat) (sb : Array Value) (blk off a b pivot : Nat) (d : Array α) (W : World) (eg : ∀ args w, (callFunc g args).run Tryd.prog w = .ok (.enter g args) w) (hless : LessReads Tryd.prog g lb enc lt blk off d.size W) (hswap : SwapSwaps Tryd.prog sf sb enc blk off d.size) (hH : Holds enc W blk off d) (hblk : blk < W.heap.size) (hap : a ≤ pivot) (hpb : pivot < b) (hb : b ≤ d.size) (hsz : d.size < 4611686018427387904) :
    Calls Tryd.prog 199 #[.agg #[.func (.func g) #[] lb, .func (.func sf) #[] sb], .int .i64 a, .int .i64 b, .int .i64 pivot] W fun e w' => e = .returned (.tuple #[.int .i64 (Sort.partition lt d a b pivot).1, .bool (Sort.partition lt d a b pivot).2.1]) ∧ ∃ n os, w' = sortWorld enc W blk off n (Sort.partition lt d a b pivot).2.2 os := Any.partition_func_w Tryd.laysGg33 enc lt g lb sf sb blk off a b pivot d W eg hless hswap hH hblk hap hpb hb hsz
open Go.RowKit Go.Lib Go.Sort in
theorem Tryd.pdqsort_func_all {α : Type} [Inhabited α] (enc : α → Value) (lt : α → α → Bool) (hO : SWO lt) (g : Nat) (lb : Array Value) (sf : Nat) (sb : Array Value) (eg : ∀ args w, (callFunc g args).run Tryd.prog w = .ok (.enter g args) w) :
    ∀ (N blk off a b limit : Nat) (d : Array α) (w : World), b - a < N → LessReads Tryd.prog g lb enc lt blk off d.size w → SwapSwaps Tryd.prog sf sb enc blk off d.size → Holds enc w blk off d → blk < w.heap.size → a ≤ b → b ≤ d.size → d.size < 4611686018427387904 → limit < 4611686018427387904 → Below lt a b d →
    Calls Tryd.prog 180 #[.agg #[.func (.func g) #[] lb, .func (.func sf) #[] sb], .int .i64 a, .int .i64 b, .int .i64 limit] w fun e w' => e = .returned (.tuple #[]) ∧ At enc w blk off (pdq lt d a b limit true true) w' := Any.pdqsort_func_all Tryd.laysGg14 enc lt hO g lb sf sb eg
def Tryd.laysGg36_ren : Go.Shelf.Ren := ⟨fun | 36 => 202 | n => n, fun | 66 => 197 | 51 => 106 | 0 => 0 | 60 => 192 | 41 => 145 | n => n, fun | n => n⟩
theorem Tryd.laysGg36 : Go.Proofs.LaysGg.n36 Tryd.prog Tryd.laysGg36_ren := {
  mixed := by kernel_rfl
  f36 := Tryd.func202.trans (congrArg some (by kernel_rfl))
  t0 := Tryd.underlying0
  a0 := Tryd.isAgg0
  z0 := Tryd.sizeOf0
  v0 := Tryd.zeroValue0
  i0 := by kernel_rfl
  t41 := Tryd.underlying145
  a41 := Tryd.isAgg145
  z41 := Tryd.sizeOf145
  v41 := Tryd.zeroValue145
  i41 := by kernel_rfl
  t51 := Tryd.underlying106
  a51 := Tryd.isAgg106
  z51 := Tryd.sizeOf106
  v51 := Tryd.zeroValue106
  i51 := by kernel_rfl
  t60 := Tryd.underlying192
  a60 := Tryd.isAgg192
  z60 := Tryd.sizeOf192
  v60 := Tryd.zeroValue192
  i60 := by kernel_rfl
  t66 := Tryd.underlying197
  a66 := Tryd.isAgg197
  z66 := Tryd.sizeOf197
  v66 := Tryd.zeroValue197
  i66 := by kernel_rfl }
open Go.RowKit Go.Lib Go.Sort in
/-- '*r ^= *r << 13; *r ^= *r >> 7; *r ^= *r << 17; return uint64(*r)': the cell holds 'xorNextN X' and that is handed back; three draws; nothing else turns. (LAID: no walk: one application.) -/
theorem Tryd.xorshift_Next (rb ro X : Nat) (hX : X < 18446744073709551616) (w : World) (hc : w.cell? ⟨rb, ro, none⟩ = some (.int .u64 X)) (hf : w.frozen? ⟨rb, ro, none⟩ = false) :
    Calls Tryd.prog 202 #[.pointer (some ⟨rb, ro, none⟩)] w fun e w' => e = .returned (.int .u64 (xorNextN X : Nat)) ∧ w' = (w.setCell ⟨rb, ro, none⟩ (.int .u64 (xorNextN X : Nat))).drewN 3 := Any.xorshift_Next Tryd.laysGg36 rb ro X hX w hc hf
def Tryd.laysGg35_ren : Go.Shelf.Ren := ⟨fun | 35 => 201 | 13 => 179 | 24 => 171 | 25 => 191 | n => n, fun | 3 => 3 | 41 => 145 | 49 => 78 | 51 => 106 | 4 => 4 | 5 => 5 | 9 => 9 | n => n, fun | n => n⟩
theorem Tryd.laysGg35 : Go.Proofs.LaysGg.n35 Tryd.prog Tryd.laysGg35_ren := {
  mixed := by kernel_rfl
  f13 := Tryd.func179.trans (congrArg some (by kernel_rfl))
  f24 := Tryd.func171.trans (congrArg some (by kernel_rfl))
  f25 := Tryd.func191.trans (congrArg some (by kernel_rfl))
  f35 := Tryd.func201.trans (congrArg some (by kernel_rfl))
  t3 := Tryd.underlying3
  a3 := Tryd.isAgg3
  z3 := Tryd.sizeOf3
  v3 := Tryd.zeroValue3
  i3 := by kernel_rfl
  t4 := Tryd.underlying4
  a4 := Tryd.isAgg4
  z4 := Tryd.sizeOf4
  v4 := Tryd.zeroValue4
  i4 := by kernel_rfl
  t5 := Tryd.underlying5
  a5 := Tryd.isAgg5
  z5 := Tryd.sizeOf5
  v5 := Tryd.zeroValue5
  i5 := by kernel_rfl
  t9 := Tryd.underlying9
  a9 := Tryd.isAgg9
  z9 := Tryd.sizeOf9
  v9 := Tryd.zeroValue9
  i9 := by kernel_rfl
  t41 := Tryd.underlying145
  a41 := Tryd.isAgg145
  z41 := Tryd.sizeOf145
  v41 := Tryd.zeroValue145
  i41 := by kernel_rfl
  t49 := Tryd.underlying78
  a49 := Tryd.isAgg78
  z49 := Tryd.sizeOf78
  v49 := Tryd.zeroValue78
  i49 := by kernel_rfl
  t51 := Tryd.underlying106
  a51 := Tryd.isAgg106
  z51 := Tryd.sizeOf106
  v51 := Tryd.zeroValue106
  i51 := by kernel_rfl }
open Go.RowKit Go.Lib Go.Sort in
/-- 'return 1 << bits.Len(uint(length))'. (LAID: no walk: one application.) -/
theorem Tryd.nextPowerOfTwo (n : Nat) (hn : n < 4611686018427387904) (w : World) :
    Calls Tryd.prog 201 #[.int .i64 n] w fun e w' => e = .returned (.int .u64 ((1 <<< bitsLen n : Nat) : Int)) ∧ w' = w := Any.nextPowerOfTwo Tryd.laysGg35 n hn w
def Tryd.laysGg34_ren : Go.Shelf.Ren := ⟨fun | 34 => 200 | n => n, fun | 44 => 178 | 3 => 3 | 0 => 0 | 4 => 4 | 26 => 164 | 37 => 173 | n => n, fun | n => n⟩
theorem Tryd.laysGg34 : Go.Proofs.LaysGg.n34 Tryd.prog Tryd.laysGg34_ren := {
  mixed := by kernel_rfl
  f34 := Tryd.func200.trans (congrArg some (by kernel_rfl))
  t0 := Tryd.underlying0
  a0 := Tryd.isAgg0
  z0 := Tryd.sizeOf0
  v0 := Tryd.zeroValue0
  i0 := by kernel_rfl
  t3 := Tryd.underlying3
  a3 := Tryd.isAgg3
  z3 := Tryd.sizeOf3
  v3 := Tryd.zeroValue3
  i3 := by kernel_rfl
  t4 := Tryd.underlying4
  a4 := Tryd.isAgg4
  z4 := Tryd.sizeOf4
  v4 := Tryd.zeroValue4
  i4 := by kernel_rfl
  t26 := Tryd.underlying164
  a26 := Tryd.isAgg164
  z26 := Tryd.sizeOf164
  v26 := Tryd.zeroValue164
  i26 := by kernel_rfl
  t37 := Tryd.underlying173
  a37 := Tryd.isAgg173
  z37 := Tryd.sizeOf173
  v37 := Tryd.zeroValue173
  i37 := by kernel_rfl
  t44 := Tryd.underlying178
  a44 := Tryd.isAgg178
  z44 := Tryd.sizeOf178
  v44 := Tryd.zeroValue178
  i44 := by kernel_rfl }
open Go.RowKit Go.Lib Go.Sort in
theorem Tryd.siftDown_func_one {α : Type} [Inhabited α] (enc : α → Value) (lt : α → α → Bool) (g : Nat) (lb : Array Value) (sf : Nat) (sb : Array Value) (blk off lo hi first : Nat) (d : Array α) (w : World) (eg : ∀ args w, (callFunc g args).run Tryd.prog w = .ok (.enter g args) w) (hless : LessReads Tryd.prog g lb enc lt blk off d.size w) (hswap : SwapSwaps Tryd.prog sf sb enc blk off d.size) (hH : Holds enc w blk off d) (hblk : blk < w.heap.size) (hlo : lo ≤ hi) (hb : first + hi ≤ d.size) (hsz : d.size < 4611686018427387904) :
    Calls Tryd.prog 200 #[.agg #[.func (.func g) #[] lb, .func (.func sf) #[] sb], .int .i64 lo, .int .i64 hi, .int .i64 first] w fun e w' =>
      e = .returned (.tuple #[]) ∧ ∃ n, w' = putRow enc (Sort.ahead (w.alloc (.cells #[.func (.func g) #[] lb, .func (.func sf) #[] sb] 178)) n) blk off (siftDown lt hi first lo d) := Any.siftDown_func_one Tryd.laysGg34 enc lt g lb sf sb blk off lo hi first d w eg hless hswap hH hblk hlo hb hsz
open Go.RowKit Go.Lib Go.Sort in
/-- sort.siftDown_func, from a world to a 'sortWorld' of it. (LAID: no walk: one application.) -/
theorem Tryd.siftDown_func_w {α : Type} [Inhabited α] (enc : α → Value) (lt : α → α → Bool) (g : Nat) (lb : Array Value) (sf : Nat) (sb : Array Value) (blk off lo hi first : Nat) (d : Array α) (w : World) (eg : ∀ args w, (callFunc g args).run Tryd.prog w = .ok (.enter g args) w) (hless : LessReads Tryd.prog g lb enc lt blk off d.size w) (hswap : SwapSwaps Tryd.prog sf sb enc blk off d.size) (hH : Holds enc w blk off d) (hblk : blk < w.heap.size) (hlo : lo ≤ hi) (hb : first + hi ≤ d.size) (hsz : d.size < 4611686018427387904) :
    Calls Tryd.prog 200 #[.agg #[.func (.func g) #[] lb, .func (.func sf) #[] sb], .int .i64 lo, .int .i64 hi, .int .i64 first] w fun e w' => e = .returned (.tuple #[]) ∧ ∃ n os, w' = sortWorld enc w blk off n (siftDown lt hi first lo d) os := Any.siftDown_func_w Tryd.laysGg34 enc lt g lb sf sb blk off lo hi first d w eg hless hswap hH hblk hlo hb hsz
def Tryd.laysGg27_ren : Go.Shelf.Ren := ⟨fun | 27 => 193 | 34 => 200 | n => n, fun | 44 => 178 | 3 => 3 | 0 => 0 | 4 => 4 | 37 => 173 | 26 => 164 | n => n, fun | n => n⟩
theorem Tryd.laysGg27 : Go.Proofs.LaysGg.n27 Tryd.prog Tryd.laysGg27_ren := {
  mixed := by kernel_rfl
  f27 := Tryd.func193.trans (congrArg some (by kernel_rfl))
  f34 := Tryd.func200.trans (congrArg some (by kernel_rfl))
  t0 := Tryd.underlying0
  a0 := Tryd.isAgg0
  z0 := Tryd.sizeOf0
  v0 := Tryd.zeroValue0
  i0 := by kernel_rfl
  t3 := Tryd.underlying3
  a3 := Tryd.isAgg3
  z3 := Tryd.sizeOf3
  v3 := Tryd.zeroValue3
  i3 := by kernel_rfl
  t4 := Tryd.underlying4
  a4 := Tryd.isAgg4
  z4 := Tryd.sizeOf4
  v4 := Tryd.zeroValue4
  i4 := by kernel_rfl
  t26 := Tryd.underlying164
  a26 := Tryd.isAgg164
  z26 := Tryd.sizeOf164
  v26 := Tryd.zeroValue164
  i26 := by kernel_rfl
  t37 := Tryd.underlying173
  a37 := Tryd.isAgg173
  z37 := Tryd.sizeOf173
  v37 := Tryd.zeroValue173
  i37 := by kernel_rfl
  t44 := Tryd.underlying178
  a44 := Tryd.isAgg178
  z44 := Tryd.sizeOf178
  v44 := Tryd.zeroValue178
  i44 := by kernel_rfl }
open Go.RowKit Go.Lib Go.Sort in
theorem Tryd.heapSort_func_w {α : Type} [Inhabited α] (enc : α → Value) (lt : α → α → Bool) (g : Nat) (lb : Array Value) (sf : Nat) (sb : Array Value) (blk off a b : Nat) (d : Array α) (w : World) (eg : ∀ args w, (callFunc g args).run Tryd.prog w = .ok (.enter g args) w) (hless : LessReads Tryd.prog g lb enc lt blk off d.size w) (hswap : SwapSwaps Tryd.prog sf sb enc blk off d.size) (hH : Holds enc w blk off d) (hblk : blk < w.heap.size) (hab : a ≤ b) (hb : b ≤ d.size) (hsz : d.size < 4611686018427387904) :
    Calls Tryd.prog 193 #[.agg #[.func (.func g) #[] lb, .func (.func sf) #[] sb], .int .i64 a, .int .i64 b] w fun e w' => e = .returned (.tuple #[]) ∧ ∃ n os, w' = sortWorld enc w blk off n (heapSort lt d a b) os := Any.heapSort_func_w Tryd.laysGg27 enc lt g lb sf sb blk off a b d w eg hless hswap hH hblk hab hb hsz
def Tryd.laysGg31_ren : Go.Shelf.Ren := ⟨fun | 31 => 197 | n => n, fun | 44 => 178 | 3 => 3 | 4 => 4 | 0 => 0 | 26 => 164 | 37 => 173 | n => n, fun | n => n⟩
theorem Tryd.laysGg31 : Go.Proofs.LaysGg.n31 Tryd.prog Tryd.laysGg31_ren := {
  mixed := by kernel_rfl
  f31 := Tryd.func197.trans (congrArg some (by kernel_rfl))
  t0 := Tryd.underlying0
  a0 := Tryd.isAgg0
  z0 := Tryd.sizeOf0
  v0 := Tryd.zeroValue0
  i0 := by kernel_rfl
  t3 := Tryd.underlying3
  a3 := Tryd.isAgg3
  z3 := Tryd.sizeOf3
  v3 := Tryd.zeroValue3
  i3 := by kernel_rfl
  t4 := Tryd.underlying4
  a4 := Tryd.isAgg4
  z4 := Tryd.sizeOf4
  v4 := Tryd.zeroValue4
  i4 := by kernel_rfl
  t26 := Tryd.underlying164
  a26 := Tryd.isAgg164
  z26 := Tryd.sizeOf164
  v26 := Tryd.zeroValue164
  i26 := by kernel_rfl
  t37 := Tryd.underlying173
  a37 := Tryd.isAgg173
  z37 := Tryd.sizeOf173
  v37 := Tryd.zeroValue173
  i37 := by kernel_rfl
  t44 := Tryd.underlying178
  a44 := Tryd.isAgg178
  z44 := Tryd.sizeOf178
  v44 := Tryd.zeroValue178
  i44 := by kernel_rfl }
open Go.RowKit Go.Lib Go.Sort in
theorem Tryd.partialInsertionSort_func_one {α : Type} [Inhabited α] (enc : α → Value) (lt : α → α → Bool) (g : Nat) (lb : Array Value) (sf : Nat) (sb : Array Value) (blk off a b : Nat) (d : Array α) (w : World) (eg : ∀ args w, (callFunc g args).run Tryd.prog w = .ok (.enter g args) w) (hless : LessReads Tryd.prog g lb enc lt blk off d.size w) (hswap : SwapSwaps Tryd.prog sf sb enc blk off d.size) (hH : Holds enc w blk off d) (hblk : blk < w.heap.size) (hab : a < b) (hb : b ≤ d.size) (hsz : d.size < 4611686018427387904) :
    Calls Tryd.prog 197 #[.agg #[.func (.func g) #[] lb, .func (.func sf) #[] sb], .int .i64 a, .int .i64 b] w fun e w' =>
      e = .returned (.bool (Sort.partialInsertionSort lt d a b).2) ∧ ∃ n, w' = putRow enc (Sort.ahead (w.alloc (.cells #[.func (.func g) #[] lb, .func (.func sf) #[] sb] 178)) n) blk off (Sort.partialInsertionSort lt d a b).1 := Any.partialInsertionSort_func_one Tryd.laysGg31 enc lt g lb sf sb blk off a b d w eg hless hswap hH hblk hab hb hsz
open Go.RowKit Go.Lib Go.Sort in
/-- sort.partialInsertionSort_func, from a world to a 'sortWorld' of it. (LAID: no walk: one application.) -/
theorem Tryd.partialInsertionSort_func_w {α : Type} [Inhabited α] (enc : α → Value) (lt : α → α → Bool) (g : Nat) (lb : Array Value) (sf : Nat) (sb : Array Value) (blk off a b : Nat) (d : Array α) (w : World) (eg : ∀ args w, (callFunc g args).run Tryd.prog w = .ok (.enter g args) w) (hless : LessReads Tryd.prog g lb enc lt blk off d.size w) (hswap : SwapSwaps Tryd.prog sf sb enc blk off d.size) (hH : Holds enc w blk off d) (hblk : blk < w.heap.size) (hab : a < b) (hb : b ≤ d.size) (hsz : d.size < 4611686018427387904) :
    Calls Tryd.prog 197 #[.agg #[.func (.func g) #[] lb, .func (.func sf) #[] sb], .int .i64 a, .int .i64 b] w fun e w' => e = .returned (.bool (Sort.partialInsertionSort lt d a b).2) ∧ ∃ n os, w' = sortWorld enc w blk off n (Sort.partialInsertionSort lt d a b).1 os := Any.partialInsertionSort_func_w Tryd.laysGg31 enc lt g lb sf sb blk off a b d w eg hless hswap hH hblk hab hb hsz
end Go.Proofs
