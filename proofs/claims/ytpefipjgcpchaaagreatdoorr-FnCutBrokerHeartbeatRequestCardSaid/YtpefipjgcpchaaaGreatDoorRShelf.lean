/-
  DERIVED: THE SHELF's CONTRACTS AT THIS DUMP, IN PLAIN WORDS (tools/lay-plain.mjs out of 'TryzShelf.lean', which tools/lay-shelf.mjs wrote): THE SAME DECLARATIONS UNDER THE SAME NAMES: 'import', 'namespace', 'open', 'def', 'theorem' AND NOTHING ELSE: no command of the shelf's: FOR A HAND-IN. Each laying: the table of numbers ('.._ren') and one theorem, a field a fact of the dump's own or the kernel's comparison; each contract: ONE APPLICATION.
-/
import Derived.Shelf.Small.Bits
import Derived.Shelf.Strconv.Itoa0
import Derived.Ground.MnProg
import Derived.Shelf.Bin.BEUint16
import Derived.Shelf.Bin.BEUint32
import Derived.Shelf.Bin.BEUint64
import Derived.Ground.GgsProg
import Derived.Shelf.GgSortFunc.Insertion
import Derived.Shelf.GgSortFunc.Small
import Derived.Shelf.GgSortFunc.Tiny
import Derived.Shelf.GgSortFunc.Compose
import Derived.Shelf.GgSortFunc.LotD
import Derived.Shelf.GgSortFunc.Pivot
import Derived.Shelf.GgSortFunc.Partition
import Derived.Shelf.GgSortFunc.Pdq
import Derived.Shelf.GgSortFunc.Whole
import Derived.Shelf.SlSortFunc.Xorshift
import Derived.Shelf.SlSortFunc.SiftDown
import Derived.Shelf.SlSortFunc.HeapSort
import Derived.Shelf.SlSortFunc.PartialInsertion
import Derived.Test.YtpefipjgcpchaaaGreatDoorRProg
namespace Go.Proofs
open Go.Shelf
def Tryz.lays128_ren : Go.Shelf.Ren := ⟨fun | 128 => 93 | n => n, fun | 51 => 57 | 3 => 3 | 4 => 4 | 46 => 108 | 5 => 5 | 9 => 9 | n => n, fun | n => n⟩
theorem Tryz.lays128 : Go.Proofs.Lays.n128 Tryz.prog Tryz.lays128_ren := {
  mixed := by kernel_rfl
  f128 := Tryz.func93.trans (congrArg some (by kernel_rfl))
  t3 := Tryz.underlying3
  a3 := Tryz.isAgg3
  z3 := Tryz.sizeOf3
  v3 := Tryz.zeroValue3
  t4 := Tryz.underlying4
  a4 := Tryz.isAgg4
  z4 := Tryz.sizeOf4
  v4 := Tryz.zeroValue4
  t5 := Tryz.underlying5
  a5 := Tryz.isAgg5
  z5 := Tryz.sizeOf5
  v5 := Tryz.zeroValue5
  t9 := Tryz.underlying9
  a9 := Tryz.isAgg9
  z9 := Tryz.sizeOf9
  v9 := Tryz.zeroValue9
  t46 := Tryz.underlying108
  a46 := Tryz.isAgg108
  z46 := Tryz.sizeOf108
  v46 := Tryz.zeroValue108
  t51 := Tryz.underlying57
  a51 := Tryz.isAgg57
  z51 := Tryz.sizeOf57
  v51 := Tryz.zeroValue57 }
/-- bits.Len32: "Len32 returns the minimum number of bits required to represent x; the result is 0 for x == 0.": IT RETURNS 'Lib.bitLen x'; the world is as it was. ('h0', 'h1': x is a uint32.) (LAID: no walk: one application.) -/
theorem Tryz.bits_Len32 (x : Int) (w : World) (h0 : 0 ≤ x) (h1 : x ≤ 4294967295) :
    Calls Tryz.prog 93 #[.int .u32 x] w fun e w' => e = .returned (.int .i64 (Lib.bitLen x.toNat)) ∧ w' = w := Any.bits_Len32 Tryz.lays128 x w h0 h1
def Tryz.laysBin36_ren : Go.Shelf.Ren := ⟨fun | 36 => 96 | n => n, fun | 37 => 128 | 22 => 22 | 23 => 27 | 0 => 0 | 5 => 5 | 45 => 108 | n => n, fun | n => n⟩
theorem Tryz.laysBin36 : Go.Proofs.LaysBin.n36 Tryz.prog Tryz.laysBin36_ren := {
  mixed := by kernel_rfl
  f36 := Tryz.func96.trans (congrArg some (by kernel_rfl))
  t0 := Tryz.underlying0
  a0 := Tryz.isAgg0
  z0 := Tryz.sizeOf0
  v0 := Tryz.zeroValue0
  i0 := by kernel_rfl
  t5 := Tryz.underlying5
  a5 := Tryz.isAgg5
  z5 := Tryz.sizeOf5
  v5 := Tryz.zeroValue5
  i5 := by kernel_rfl
  t22 := Tryz.underlying22
  a22 := Tryz.isAgg22
  z22 := Tryz.sizeOf22
  v22 := Tryz.zeroValue22
  i22 := by kernel_rfl
  t23 := Tryz.underlying27
  a23 := Tryz.isAgg27
  z23 := Tryz.sizeOf27
  v23 := Tryz.zeroValue27
  i23 := by kernel_rfl
  t37 := Tryz.underlying128
  a37 := Tryz.isAgg128
  z37 := Tryz.sizeOf128
  v37 := Tryz.zeroValue128
  i37 := by kernel_rfl
  t45 := Tryz.underlying108
  a45 := Tryz.isAgg108
  z45 := Tryz.sizeOf108
  v45 := Tryz.zeroValue108
  i45 := by kernel_rfl }
open Go.RowKit in
/-- binary.BigEndian.Uint16: "Uint16 returns the uint16 representation of b[0:2].": THE NUMBER THAT THE FIRST 2 BYTES SPELL, the greatest byte first ('Lib.beNat'). Of what was there nothing has turned (the receiver, an empty struct, is laid in a new block without cells; the statement's order is drawn). (LAID: no walk: one application.) -/
theorem Tryz.binary_BE_Uint16 (g o n c : Nat) (b0 b1 : UInt8) (w : World) (hn : 2 ≤ n) (c0 : w.cell? ⟨g, o, none⟩ = some (.int .u8 b0.toNat)) (c1 : w.cell? ⟨g, o + 1, none⟩ = some (.int .u8 b1.toNat)) :
    Calls Tryz.prog 96 #[.agg #[], .slice (some ⟨g, o, none⟩) n c] w fun e w' => e = .returned (.int .u16 (Lib.beNat [b0, b1])) ∧ Below w.heap.size w w' := Any.binary_BE_Uint16 Tryz.laysBin36 g o n c b0 b1 w hn c0 c1
def Tryz.laysBin39_ren : Go.Shelf.Ren := ⟨fun | 39 => 90 | n => n, fun | 37 => 128 | 22 => 22 | 29 => 57 | 0 => 0 | 5 => 5 | 45 => 108 | n => n, fun | n => n⟩
theorem Tryz.laysBin39 : Go.Proofs.LaysBin.n39 Tryz.prog Tryz.laysBin39_ren := {
  mixed := by kernel_rfl
  f39 := Tryz.func90.trans (congrArg some (by kernel_rfl))
  t0 := Tryz.underlying0
  a0 := Tryz.isAgg0
  z0 := Tryz.sizeOf0
  v0 := Tryz.zeroValue0
  i0 := by kernel_rfl
  t5 := Tryz.underlying5
  a5 := Tryz.isAgg5
  z5 := Tryz.sizeOf5
  v5 := Tryz.zeroValue5
  i5 := by kernel_rfl
  t22 := Tryz.underlying22
  a22 := Tryz.isAgg22
  z22 := Tryz.sizeOf22
  v22 := Tryz.zeroValue22
  i22 := by kernel_rfl
  t29 := Tryz.underlying57
  a29 := Tryz.isAgg57
  z29 := Tryz.sizeOf57
  v29 := Tryz.zeroValue57
  i29 := by kernel_rfl
  t37 := Tryz.underlying128
  a37 := Tryz.isAgg128
  z37 := Tryz.sizeOf128
  v37 := Tryz.zeroValue128
  i37 := by kernel_rfl
  t45 := Tryz.underlying108
  a45 := Tryz.isAgg108
  z45 := Tryz.sizeOf108
  v45 := Tryz.zeroValue108
  i45 := by kernel_rfl }
open Go.RowKit in
/-- binary.BigEndian.Uint32: "Uint32 returns the uint32 representation of b[0:4].": THE NUMBER THAT THE FIRST 4 BYTES SPELL, the greatest byte first ('Lib.beNat'). Of what was there nothing has turned (the receiver, an empty struct, is laid in a new block without cells; the statement's order is drawn). (LAID: no walk: one application.) -/
theorem Tryz.binary_BE_Uint32 (g o n c : Nat) (b0 b1 b2 b3 : UInt8) (w : World) (hn : 4 ≤ n) (c0 : w.cell? ⟨g, o, none⟩ = some (.int .u8 b0.toNat)) (c1 : w.cell? ⟨g, o + 1, none⟩ = some (.int .u8 b1.toNat)) (c2 : w.cell? ⟨g, o + 2, none⟩ = some (.int .u8 b2.toNat)) (c3 : w.cell? ⟨g, o + 3, none⟩ = some (.int .u8 b3.toNat)) :
    Calls Tryz.prog 90 #[.agg #[], .slice (some ⟨g, o, none⟩) n c] w fun e w' => e = .returned (.int .u32 (Lib.beNat [b0, b1, b2, b3])) ∧ Below w.heap.size w w' := Any.binary_BE_Uint32 Tryz.laysBin39 g o n c b0 b1 b2 b3 w hn c0 c1 c2 c3
def Tryz.laysBin42_ren : Go.Shelf.Ren := ⟨fun | 42 => 98 | n => n, fun | 37 => 128 | 22 => 22 | 33 => 73 | 0 => 0 | 5 => 5 | 45 => 108 | n => n, fun | n => n⟩
theorem Tryz.laysBin42 : Go.Proofs.LaysBin.n42 Tryz.prog Tryz.laysBin42_ren := {
  mixed := by kernel_rfl
  f42 := Tryz.func98.trans (congrArg some (by kernel_rfl))
  t0 := Tryz.underlying0
  a0 := Tryz.isAgg0
  z0 := Tryz.sizeOf0
  v0 := Tryz.zeroValue0
  i0 := by kernel_rfl
  t5 := Tryz.underlying5
  a5 := Tryz.isAgg5
  z5 := Tryz.sizeOf5
  v5 := Tryz.zeroValue5
  i5 := by kernel_rfl
  t22 := Tryz.underlying22
  a22 := Tryz.isAgg22
  z22 := Tryz.sizeOf22
  v22 := Tryz.zeroValue22
  i22 := by kernel_rfl
  t33 := Tryz.underlying73
  a33 := Tryz.isAgg73
  z33 := Tryz.sizeOf73
  v33 := Tryz.zeroValue73
  i33 := by kernel_rfl
  t37 := Tryz.underlying128
  a37 := Tryz.isAgg128
  z37 := Tryz.sizeOf128
  v37 := Tryz.zeroValue128
  i37 := by kernel_rfl
  t45 := Tryz.underlying108
  a45 := Tryz.isAgg108
  z45 := Tryz.sizeOf108
  v45 := Tryz.zeroValue108
  i45 := by kernel_rfl }
open Go.RowKit in
/-- binary.BigEndian.Uint64: "Uint64 returns the uint64 representation of b[0:8].": THE NUMBER THAT THE FIRST 8 BYTES SPELL, the greatest byte first ('Lib.beNat'). Of what was there nothing has turned (the receiver, an empty struct, is laid in a new block without cells; the statement's order is drawn). (LAID: no walk: one application.) -/
theorem Tryz.binary_BE_Uint64 (g o n c : Nat) (b0 b1 b2 b3 b4 b5 b6 b7 : UInt8) (w : World) (hn : 8 ≤ n) (c0 : w.cell? ⟨g, o, none⟩ = some (.int .u8 b0.toNat)) (c1 : w.cell? ⟨g, o + 1, none⟩ = some (.int .u8 b1.toNat)) (c2 : w.cell? ⟨g, o + 2, none⟩ = some (.int .u8 b2.toNat)) (c3 : w.cell? ⟨g, o + 3, none⟩ = some (.int .u8 b3.toNat)) (c4 : w.cell? ⟨g, o + 4, none⟩ = some (.int .u8 b4.toNat)) (c5 : w.cell? ⟨g, o + 5, none⟩ = some (.int .u8 b5.toNat)) (c6 : w.cell? ⟨g, o + 6, none⟩ = some (.int .u8 b6.toNat)) (c7 : w.cell? ⟨g, o + 7, none⟩ = some (.int .u8 b7.toNat)) :
    Calls Tryz.prog 98 #[.agg #[], .slice (some ⟨g, o, none⟩) n c] w fun e w' => e = .returned (.int .u64 (Lib.beNat [b0, b1, b2, b3, b4, b5, b6, b7])) ∧ Below w.heap.size w w' := Any.binary_BE_Uint64 Tryz.laysBin42 g o n c b0 b1 b2 b3 b4 b5 b6 b7 w hn c0 c1 c2 c3 c4 c5 c6 c7
open Go.RowKit Go.Lib Go.Sort in
def Tryz.laysGg6_ren : Go.Shelf.Ren := ⟨fun | 6 => 94 | 10 => 99 | 11 => 100 | 12 => 101 | 13 => 102 | 14 => 103 | 24 => 93 | 25 => 113 | 26 => 114 | 27 => 115 | 28 => 116 | 29 => 117 | 30 => 118 | 31 => 119 | 32 => 120 | 33 => 121 | 34 => 122 | 35 => 123 | 36 => 124 | 37 => 125 | 38 => 126 | 39 => 127 | n => n, fun | 20 => 20 | 26 => 134 | 35 => 141 | 0 => 0 | 37 => 143 | 3 => 3 | 41 => 108 | 44 => 148 | 49 => 57 | 51 => 73 | 4 => 4 | 54 => 155 | 53 => 154 | 58 => 159 | 5 => 5 | 9 => 9 | 60 => 161 | 64 => 164 | 66 => 166 | 67 => 167 | 17 => 17 | 32 => 138 | 33 => 139 | 82 => 182 | 12 => 12 | 75 => 175 | 76 => 176 | 77 => 177 | 78 => 178 | 79 => 179 | 80 => 180 | n => n, fun | n => n⟩
theorem Tryz.laysGg6 : Go.Proofs.LaysGg.n6 Tryz.prog Tryz.laysGg6_ren := {
  mixed := by kernel_rfl
  f6 := Tryz.func94.trans (congrArg some (by kernel_rfl))
  f10 := Tryz.func99.trans (congrArg some (by kernel_rfl))
  f11 := Tryz.func100.trans (congrArg some (by kernel_rfl))
  f12 := Tryz.func101.trans (congrArg some (by kernel_rfl))
  f13 := Tryz.func102.trans (congrArg some (by kernel_rfl))
  f14 := Tryz.func103.trans (congrArg some (by kernel_rfl))
  f24 := Tryz.func93.trans (congrArg some (by kernel_rfl))
  f25 := Tryz.func113.trans (congrArg some (by kernel_rfl))
  f26 := Tryz.func114.trans (congrArg some (by kernel_rfl))
  f27 := Tryz.func115.trans (congrArg some (by kernel_rfl))
  f28 := Tryz.func116.trans (congrArg some (by kernel_rfl))
  f29 := Tryz.func117.trans (congrArg some (by kernel_rfl))
  f30 := Tryz.func118.trans (congrArg some (by kernel_rfl))
  f31 := Tryz.func119.trans (congrArg some (by kernel_rfl))
  f32 := Tryz.func120.trans (congrArg some (by kernel_rfl))
  f33 := Tryz.func121.trans (congrArg some (by kernel_rfl))
  f34 := Tryz.func122.trans (congrArg some (by kernel_rfl))
  f35 := Tryz.func123.trans (congrArg some (by kernel_rfl))
  f36 := Tryz.func124.trans (congrArg some (by kernel_rfl))
  f37 := Tryz.func125.trans (congrArg some (by kernel_rfl))
  f38 := Tryz.func126.trans (congrArg some (by kernel_rfl))
  f39 := Tryz.func127.trans (congrArg some (by kernel_rfl))
  t0 := Tryz.underlying0
  a0 := Tryz.isAgg0
  z0 := Tryz.sizeOf0
  v0 := Tryz.zeroValue0
  i0 := by kernel_rfl
  t3 := Tryz.underlying3
  a3 := Tryz.isAgg3
  z3 := Tryz.sizeOf3
  v3 := Tryz.zeroValue3
  i3 := by kernel_rfl
  t4 := Tryz.underlying4
  a4 := Tryz.isAgg4
  z4 := Tryz.sizeOf4
  v4 := Tryz.zeroValue4
  i4 := by kernel_rfl
  t5 := Tryz.underlying5
  a5 := Tryz.isAgg5
  z5 := Tryz.sizeOf5
  v5 := Tryz.zeroValue5
  i5 := by kernel_rfl
  t9 := Tryz.underlying9
  a9 := Tryz.isAgg9
  z9 := Tryz.sizeOf9
  v9 := Tryz.zeroValue9
  i9 := by kernel_rfl
  t12 := Tryz.underlying12
  a12 := Tryz.isAgg12
  z12 := Tryz.sizeOf12
  v12 := Tryz.zeroValue12
  i12 := by kernel_rfl
  t17 := Tryz.underlying17
  a17 := Tryz.isAgg17
  z17 := Tryz.sizeOf17
  v17 := Tryz.zeroValue17
  i17 := by kernel_rfl
  t20 := Tryz.underlying20
  a20 := Tryz.isAgg20
  z20 := Tryz.sizeOf20
  v20 := Tryz.zeroValue20
  i20 := by kernel_rfl
  t26 := Tryz.underlying134
  a26 := Tryz.isAgg134
  z26 := Tryz.sizeOf134
  v26 := Tryz.zeroValue134
  i26 := by kernel_rfl
  t32 := Tryz.underlying138
  a32 := Tryz.isAgg138
  z32 := Tryz.sizeOf138
  v32 := Tryz.zeroValue138
  i32 := by kernel_rfl
  t33 := Tryz.underlying139
  a33 := Tryz.isAgg139
  z33 := Tryz.sizeOf139
  v33 := Tryz.zeroValue139
  i33 := by kernel_rfl
  t35 := Tryz.underlying141
  a35 := Tryz.isAgg141
  z35 := Tryz.sizeOf141
  v35 := Tryz.zeroValue141
  i35 := by kernel_rfl
  t37 := Tryz.underlying143
  a37 := Tryz.isAgg143
  z37 := Tryz.sizeOf143
  v37 := Tryz.zeroValue143
  i37 := by kernel_rfl
  t41 := Tryz.underlying108
  a41 := Tryz.isAgg108
  z41 := Tryz.sizeOf108
  v41 := Tryz.zeroValue108
  i41 := by kernel_rfl
  t44 := Tryz.underlying148
  a44 := Tryz.isAgg148
  z44 := Tryz.sizeOf148
  v44 := Tryz.zeroValue148
  i44 := by kernel_rfl
  t49 := Tryz.underlying57
  a49 := Tryz.isAgg57
  z49 := Tryz.sizeOf57
  v49 := Tryz.zeroValue57
  i49 := by kernel_rfl
  t51 := Tryz.underlying73
  a51 := Tryz.isAgg73
  z51 := Tryz.sizeOf73
  v51 := Tryz.zeroValue73
  i51 := by kernel_rfl
  t53 := Tryz.underlying154
  a53 := Tryz.isAgg154
  z53 := Tryz.sizeOf154
  v53 := Tryz.zeroValue154
  i53 := by kernel_rfl
  t54 := Tryz.underlying155
  a54 := Tryz.isAgg155
  z54 := Tryz.sizeOf155
  v54 := Tryz.zeroValue155
  i54 := by kernel_rfl
  t58 := Tryz.underlying159
  a58 := Tryz.isAgg159
  z58 := Tryz.sizeOf159
  v58 := Tryz.zeroValue159
  i58 := by kernel_rfl
  t60 := Tryz.underlying161
  a60 := Tryz.isAgg161
  z60 := Tryz.sizeOf161
  v60 := Tryz.zeroValue161
  i60 := by kernel_rfl
  t64 := Tryz.underlying164
  a64 := Tryz.isAgg164
  z64 := Tryz.sizeOf164
  v64 := Tryz.zeroValue164
  i64 := by kernel_rfl
  t66 := Tryz.underlying166
  a66 := Tryz.isAgg166
  z66 := Tryz.sizeOf166
  v66 := Tryz.zeroValue166
  i66 := by kernel_rfl
  t67 := Tryz.underlying167
  a67 := Tryz.isAgg167
  z67 := Tryz.sizeOf167
  v67 := Tryz.zeroValue167
  i67 := by kernel_rfl
  t75 := Tryz.underlying175
  a75 := Tryz.isAgg175
  z75 := Tryz.sizeOf175
  v75 := Tryz.zeroValue175
  i75 := by kernel_rfl
  t76 := Tryz.underlying176
  a76 := Tryz.isAgg176
  z76 := Tryz.sizeOf176
  v76 := Tryz.zeroValue176
  i76 := by kernel_rfl
  t77 := Tryz.underlying177
  a77 := Tryz.isAgg177
  z77 := Tryz.sizeOf177
  v77 := Tryz.zeroValue177
  i77 := by kernel_rfl
  t78 := Tryz.underlying178
  a78 := Tryz.isAgg178
  z78 := Tryz.sizeOf178
  v78 := Tryz.zeroValue178
  i78 := by kernel_rfl
  t79 := Tryz.underlying179
  a79 := Tryz.isAgg179
  z79 := Tryz.sizeOf179
  v79 := Tryz.zeroValue179
  i79 := by kernel_rfl
  t80 := Tryz.underlying180
  a80 := Tryz.isAgg180
  z80 := Tryz.sizeOf180
  v80 := Tryz.zeroValue180
  i80 := by kernel_rfl
  t82 := Tryz.underlying182
  a82 := Tryz.isAgg182
  z82 := Tryz.sizeOf182
  v82 := Tryz.zeroValue182
  i82 := by kernel_rfl }
end Go.Proofs
