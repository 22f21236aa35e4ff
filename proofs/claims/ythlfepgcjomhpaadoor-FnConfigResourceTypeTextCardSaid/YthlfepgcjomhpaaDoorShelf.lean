/-
  DERIVED: THE SHELF's CONTRACTS AT THIS DUMP, IN PLAIN WORDS (tools/lay-plain.mjs out of 'TrydShelf.lean', which tools/lay-shelf.mjs wrote): THE SAME DECLARATIONS UNDER THE SAME NAMES: 'import', 'namespace', 'open', 'def', 'theorem' AND NOTHING ELSE: no command of the shelf's: FOR A HAND-IN. Each laying: the table of numbers ('.._ren') and one theorem, a field a fact of the dump's own or the kernel's comparison; each contract: ONE APPLICATION.
-/
import Derived.Shelf.Strings.Builder1
import Derived.Shelf.Strings.Builder2
import Derived.Shelf.Strings.OnBuilder
import Derived.Shelf.Strings.TrimSpace
import Derived.Shelf.Small.Utf8
import Derived.Shelf.Unicode.Latin
import Derived.Shelf.Unicode.DecodeSlow
import Derived.Shelf.Unicode.Is16White
import Derived.Shelf.Unicode.IsSpaceAny
import Derived.Shelf.Unicode.CaseLookup
import Derived.Shelf.Unicode.CaseConvert
import Derived.Shelf.Unicode.CaseTo
import Derived.Shelf.Unicode.CaseLaid
import Derived.Shelf.Unicode.Is16Any
import Derived.Shelf.Unicode.Is32Any
import Derived.Shelf.Unicode.ExclAny
import Derived.Test.YthlfepgcjomhpaaDoorProg
namespace Go.Proofs
open Go.Shelf
def Tryd.lays169_ren : Go.Shelf.Ren := ⟨fun | 169 => 37 | n => n, fun | 70 => 65 | 9 => 9 | 0 => 0 | 72 => 67 | 37 => 26 | 127 => 80 | 3 => 3 | 5 => 5 | n => n, fun | n => n⟩
theorem Tryd.lays169 : Go.Proofs.Lays.n169 Tryd.prog Tryd.lays169_ren := {
  mixed := by kernel_rfl
  f169 := Tryd.func37.trans (congrArg some (by kernel_rfl))
  t0 := Tryd.underlying0
  a0 := Tryd.isAgg0
  z0 := Tryd.sizeOf0
  v0 := Tryd.zeroValue0
  t3 := Tryd.underlying3
  a3 := Tryd.isAgg3
  z3 := Tryd.sizeOf3
  v3 := Tryd.zeroValue3
  t9 := Tryd.underlying9
  a9 := Tryd.isAgg9
  z9 := Tryd.sizeOf9
  v9 := Tryd.zeroValue9
  t37 := Tryd.underlying26
  a37 := Tryd.isAgg26
  z37 := Tryd.sizeOf26
  v37 := Tryd.zeroValue26
  t70 := Tryd.underlying65
  a70 := Tryd.isAgg65
  z70 := Tryd.sizeOf65
  v70 := Tryd.zeroValue65
  t72 := Tryd.underlying67
  a72 := Tryd.isAgg67
  z72 := Tryd.sizeOf67
  v72 := Tryd.zeroValue67
  t127 := Tryd.underlying80
  a127 := Tryd.isAgg80
  z127 := Tryd.sizeOf80
  v127 := Tryd.zeroValue80 }
theorem Tryd.Builder_Extra_169 : Builder.Extra Tryd.prog Tryd.lays169_ren := {
  sizeBuilder := by kernel_rfl
  liesBuilder := by kernel_rfl
  t5 := Tryd.underlying5
  a5 := Tryd.isAgg5
  z5 := Tryd.sizeOf5
  v5 := Tryd.zeroValue5
  infoByte := by kernel_rfl
  cellsByte := by kernel_rfl
  sizeByte := by kernel_rfl
  neB5 := by decide }
open Go.RowKit in
/-- (*strings.Builder).String: "String returns the accumulated string.": OF A BUILDER THAT HOLDS AT LEAST ONE BYTE. ✋ THE MODEL FREEZES THOSE BYTES IN THE BUFFER (unsafe.String): a later write INTO them ends the model's run without an answer; a later append BEHIND them goes on. The statement's order of evaluation is drawn: one draw. (LAID: no walk: one application.) -/
theorem Tryd.Builder_String (B b : Nat) (l : List UInt8) (w : World) (h : Lib.IsBuilder 67 5 B b (Lib.byteCells l) w) (h0 : l ≠ []) :
    Calls Tryd.prog 37 #[.pointer (some ⟨b, 0, none⟩)] w fun e w' => e = .returned (.string ⟨l.toArray⟩) ∧ Below B w w' := Any.Builder_String Tryd.lays169 Tryd.Builder_Extra_169 B b l w h h0
open Go.RowKit in
/-- (*strings.Builder).String OF A BUILDER THAT HOLDS NO BYTE: the empty string. (Its buffer is nil, or a row of which it has taken nothing yet; where that row has NO capacity the model lays one new block for unsafe.SliceData's 'some address'.) One draw. (LAID: no walk: one application.) -/
theorem Tryd.Builder_String_empty (B b : Nat) (w : World) (h : Lib.IsBuilder 67 5 B b [] w) (hBw : B ≤ w.heap.size) :
    Calls Tryd.prog 37 #[.pointer (some ⟨b, 0, none⟩)] w fun e w' => e = .returned (.string ⟨#[]⟩) ∧ Below B w w' := Any.Builder_String_empty Tryd.lays169 Tryd.Builder_Extra_169 B b w h hBw
open Go.RowKit in
/-- (*strings.Builder).String: "String returns the accumulated string.": WHATEVER THE BUILDER HOLDS. (LAID: no walk: one application.) -/
theorem Tryd.Builder_String_any (B b : Nat) (l : List UInt8) (w : World) (h : Lib.IsBuilder 67 5 B b (Lib.byteCells l) w) (hBw : B ≤ w.heap.size) :
    Calls Tryd.prog 37 #[.pointer (some ⟨b, 0, none⟩)] w fun e w' => e = .returned (.string ⟨l.toArray⟩) ∧ Below B w w' := Any.Builder_String_any Tryd.lays169 Tryd.Builder_Extra_169 B b l w h hBw
def Tryd.lays241_ren : Go.Shelf.Ren := ⟨fun | 241 => 45 | 277 => 56 | n => n, fun | 70 => 65 | 3 => 3 | 0 => 0 | 72 => 67 | 37 => 26 | 5 => 5 | n => n, fun | n => n⟩
theorem Tryd.lays241 : Go.Proofs.Lays.n241 Tryd.prog Tryd.lays241_ren := {
  mixed := by kernel_rfl
  f241 := Tryd.func45.trans (congrArg some (by kernel_rfl))
  f277 := Tryd.func56.trans (congrArg some (by kernel_rfl))
  t0 := Tryd.underlying0
  a0 := Tryd.isAgg0
  z0 := Tryd.sizeOf0
  v0 := Tryd.zeroValue0
  t3 := Tryd.underlying3
  a3 := Tryd.isAgg3
  z3 := Tryd.sizeOf3
  v3 := Tryd.zeroValue3
  t37 := Tryd.underlying26
  a37 := Tryd.isAgg26
  z37 := Tryd.sizeOf26
  v37 := Tryd.zeroValue26
  t70 := Tryd.underlying65
  a70 := Tryd.isAgg65
  z70 := Tryd.sizeOf65
  v70 := Tryd.zeroValue65
  t72 := Tryd.underlying67
  a72 := Tryd.isAgg67
  z72 := Tryd.sizeOf67
  v72 := Tryd.zeroValue67 }
theorem Tryd.Builder_Extra_241 : Builder.Extra Tryd.prog Tryd.lays241_ren := {
  sizeBuilder := by kernel_rfl
  liesBuilder := by kernel_rfl
  t5 := Tryd.underlying5
  a5 := Tryd.isAgg5
  z5 := Tryd.sizeOf5
  v5 := Tryd.zeroValue5
  infoByte := by kernel_rfl
  cellsByte := by kernel_rfl
  sizeByte := by kernel_rfl
  neB5 := by decide }
open Go.RowKit in
/-- (*strings.Builder).grow (no doc but "grow copies the buffer to a new, larger buffer so that there are at least n bytes of capacity beyond len(b.buf)."): AT A BUILDER WITHOUT A BUFFER: a new row of whatever bytes for its buffer, none of them its own yet. Three draws. (LAID: no walk: one application.) -/
theorem Tryd.Builder_grow_fresh (B b n : Nat) (w : World) (hB : B ≤ b) (hbk : w.heap[b]? = some (.cells #[.pointer (some ⟨b, 0, none⟩), .slice none 0 0] 67 (0, 0))) (hBw : B ≤ w.heap.size) (hn : n ≤ 281474976710656) :
    Calls Tryd.prog 45 #[.pointer (some ⟨b, 0, none⟩), .int .i64 n] w fun e w' => e = .returned (.tuple #[]) ∧ (Lib.BuilderAt 67 5 B b (.pointer (some ⟨b, 0, none⟩)) [] w' ∧ Below B w w') := Any.Builder_grow_fresh Tryd.lays241 Tryd.Builder_Extra_241 B b n w hB hbk hBw hn
def Tryd.lays165_ren : Go.Shelf.Ren := ⟨fun | 165 => 34 | 240 => 44 | 241 => 45 | 276 => 55 | 277 => 56 | n => n, fun | 70 => 65 | 3 => 3 | 0 => 0 | 4 => 4 | 9 => 9 | 20 => 20 | 72 => 67 | 37 => 26 | 164 => 96 | 5 => 5 | n => n, fun | n => n⟩
theorem Tryd.lays165 : Go.Proofs.Lays.n165 Tryd.prog Tryd.lays165_ren := {
  mixed := by kernel_rfl
  f165 := Tryd.func34.trans (congrArg some (by kernel_rfl))
  f240 := Tryd.func44.trans (congrArg some (by kernel_rfl))
  f241 := Tryd.func45.trans (congrArg some (by kernel_rfl))
  f276 := Tryd.func55.trans (congrArg some (by kernel_rfl))
  f277 := Tryd.func56.trans (congrArg some (by kernel_rfl))
  t0 := Tryd.underlying0
  a0 := Tryd.isAgg0
  z0 := Tryd.sizeOf0
  v0 := Tryd.zeroValue0
  t3 := Tryd.underlying3
  a3 := Tryd.isAgg3
  z3 := Tryd.sizeOf3
  v3 := Tryd.zeroValue3
  t4 := Tryd.underlying4
  a4 := Tryd.isAgg4
  z4 := Tryd.sizeOf4
  v4 := Tryd.zeroValue4
  t9 := Tryd.underlying9
  a9 := Tryd.isAgg9
  z9 := Tryd.sizeOf9
  v9 := Tryd.zeroValue9
  t20 := Tryd.underlying20
  a20 := Tryd.isAgg20
  z20 := Tryd.sizeOf20
  v20 := Tryd.zeroValue20
  t37 := Tryd.underlying26
  a37 := Tryd.isAgg26
  z37 := Tryd.sizeOf26
  v37 := Tryd.zeroValue26
  t70 := Tryd.underlying65
  a70 := Tryd.isAgg65
  z70 := Tryd.sizeOf65
  v70 := Tryd.zeroValue65
  t72 := Tryd.underlying67
  a72 := Tryd.isAgg67
  z72 := Tryd.sizeOf67
  v72 := Tryd.zeroValue67
  t164 := Tryd.underlying96
  a164 := Tryd.isAgg96
  z164 := Tryd.sizeOf96
  v164 := Tryd.zeroValue96 }
theorem Tryd.Builder_Extra_165 : Builder.Extra Tryd.prog Tryd.lays165_ren := {
  sizeBuilder := by kernel_rfl
  liesBuilder := by kernel_rfl
  t5 := Tryd.underlying5
  a5 := Tryd.isAgg5
  z5 := Tryd.sizeOf5
  v5 := Tryd.zeroValue5
  infoByte := by kernel_rfl
  cellsByte := by kernel_rfl
  sizeByte := by kernel_rfl
  neB5 := by decide }
open Go.RowKit in
/-- (*strings.Builder).Grow AT A BUILDER THAT HAS NOT BEEN WRITTEN ('var b strings.Builder; b.Grow(n)'): "Grow grows b's capacity, if necessary, to guarantee space for another n bytes.": it holds no byte behind it as before it. (LAID: no walk: one application.) -/
theorem Tryd.Builder_Grow_fresh (B b n : Nat) (w : World) (hB : B ≤ b) (hbk : w.heap[b]? = some (.cells #[.pointer none, .slice none 0 0] 67 (0, 0))) (hBw : B ≤ w.heap.size) (hn : n ≤ 281474976710656) :
    Calls Tryd.prog 34 #[.pointer (some ⟨b, 0, none⟩), .int .i64 n] w fun e w' => e = .returned (.tuple #[]) ∧ (Lib.BuilderAt 67 5 B b (.pointer (some ⟨b, 0, none⟩)) [] w' ∧ Below B w w') := Any.Builder_Grow_fresh Tryd.lays165 Tryd.Builder_Extra_165 B b n w hB hbk hBw hn
def Tryd.lays159_ren : Go.Shelf.Ren := ⟨fun | 159 => 29 | 165 => 34 | 166 => 35 | 167 => 36 | 169 => 37 | 230 => 38 | 204 => 39 | 240 => 44 | 241 => 45 | 197 => 43 | 118 => 46 | 168 => 47 | 270 => 48 | 262 => 49 | 276 => 55 | 277 => 56 | 260 => 54 | 242 => 57 | 313 => 58 | 278 => 60 | 274 => 61 | 275 => 62 | n => n, fun | 9 => 9 | 4 => 4 | 3 => 3 | 5 => 5 | 72 => 67 | 0 => 0 | 76 => 69 | 75 => 40 | 107 => 73 | 70 => 65 | 20 => 20 | 37 => 26 | 127 => 80 | 21 => 21 | 105 => 78 | 164 => 96 | 162 => 102 | 203 => 100 | 119 => 64 | 46 => 104 | 139 => 108 | 138 => 107 | 51 => 74 | 160 => 109 | 208 => 115 | 206 => 113 | 80 => 50 | n => n, fun | 13 => 2 | 3 => 3 | 4 => 4 | n => n⟩
theorem Tryd.lays159 : Go.Proofs.Lays.n159 Tryd.prog Tryd.lays159_ren := {
  mixed := by kernel_rfl
  f118 := Tryd.func46.trans (congrArg some (by kernel_rfl))
  f159 := Tryd.func29.trans (congrArg some (by kernel_rfl))
  f165 := Tryd.func34.trans (congrArg some (by kernel_rfl))
  f166 := Tryd.func35.trans (congrArg some (by kernel_rfl))
  f167 := Tryd.func36.trans (congrArg some (by kernel_rfl))
  f168 := Tryd.func47.trans (congrArg some (by kernel_rfl))
  f169 := Tryd.func37.trans (congrArg some (by kernel_rfl))
  f197 := Tryd.func43.trans (congrArg some (by kernel_rfl))
  f204 := Tryd.func39.trans (congrArg some (by kernel_rfl))
  f230 := Tryd.func38.trans (congrArg some (by kernel_rfl))
  f240 := Tryd.func44.trans (congrArg some (by kernel_rfl))
  f241 := Tryd.func45.trans (congrArg some (by kernel_rfl))
  f242 := Tryd.func57.trans (congrArg some (by kernel_rfl))
  f260 := Tryd.func54.trans (congrArg some (by kernel_rfl))
  f262 := Tryd.func49.trans (congrArg some (by kernel_rfl))
  f270 := Tryd.func48.trans (congrArg some (by kernel_rfl))
  f274 := Tryd.func61.trans (congrArg some (by kernel_rfl))
  f275 := Tryd.func62.trans (congrArg some (by kernel_rfl))
  f276 := Tryd.func55.trans (congrArg some (by kernel_rfl))
  f277 := Tryd.func56.trans (congrArg some (by kernel_rfl))
  f278 := Tryd.func60.trans (congrArg some (by kernel_rfl))
  f313 := Tryd.func58.trans (congrArg some (by kernel_rfl))
  t0 := Tryd.underlying0
  a0 := Tryd.isAgg0
  z0 := Tryd.sizeOf0
  v0 := Tryd.zeroValue0
  t3 := Tryd.underlying3
  a3 := Tryd.isAgg3
  z3 := Tryd.sizeOf3
  v3 := Tryd.zeroValue3
  t4 := Tryd.underlying4
  a4 := Tryd.isAgg4
  z4 := Tryd.sizeOf4
  v4 := Tryd.zeroValue4
  t5 := Tryd.underlying5
  a5 := Tryd.isAgg5
  z5 := Tryd.sizeOf5
  v5 := Tryd.zeroValue5
  t9 := Tryd.underlying9
  a9 := Tryd.isAgg9
  z9 := Tryd.sizeOf9
  v9 := Tryd.zeroValue9
  t20 := Tryd.underlying20
  a20 := Tryd.isAgg20
  z20 := Tryd.sizeOf20
  v20 := Tryd.zeroValue20
  t21 := Tryd.underlying21
  a21 := Tryd.isAgg21
  z21 := Tryd.sizeOf21
  v21 := Tryd.zeroValue21
  t37 := Tryd.underlying26
  a37 := Tryd.isAgg26
  z37 := Tryd.sizeOf26
  v37 := Tryd.zeroValue26
  t46 := Tryd.underlying104
  a46 := Tryd.isAgg104
  z46 := Tryd.sizeOf104
  v46 := Tryd.zeroValue104
  t51 := Tryd.underlying74
  a51 := Tryd.isAgg74
  z51 := Tryd.sizeOf74
  v51 := Tryd.zeroValue74
  t70 := Tryd.underlying65
  a70 := Tryd.isAgg65
  z70 := Tryd.sizeOf65
  v70 := Tryd.zeroValue65
  t72 := Tryd.underlying67
  a72 := Tryd.isAgg67
  z72 := Tryd.sizeOf67
  v72 := Tryd.zeroValue67
  t75 := Tryd.underlying40
  a75 := Tryd.isAgg40
  z75 := Tryd.sizeOf40
  v75 := Tryd.zeroValue40
  t76 := Tryd.underlying69
  a76 := Tryd.isAgg69
  z76 := Tryd.sizeOf69
  v76 := Tryd.zeroValue69
  t105 := Tryd.underlying78
  a105 := Tryd.isAgg78
  z105 := Tryd.sizeOf78
  v105 := Tryd.zeroValue78
  t107 := Tryd.underlying73
  a107 := Tryd.isAgg73
  z107 := Tryd.sizeOf73
  v107 := Tryd.zeroValue73
  t119 := Tryd.underlying64
  a119 := Tryd.isAgg64
  z119 := Tryd.sizeOf64
  t127 := Tryd.underlying80
  a127 := Tryd.isAgg80
  z127 := Tryd.sizeOf80
  v127 := Tryd.zeroValue80
  t138 := Tryd.underlying107
  a138 := Tryd.isAgg107
  z138 := Tryd.sizeOf107
  v138 := Tryd.zeroValue107
  t139 := Tryd.underlying108
  a139 := Tryd.isAgg108
  z139 := Tryd.sizeOf108
  v139 := Tryd.zeroValue108
  t160 := Tryd.underlying109
  a160 := Tryd.isAgg109
  z160 := Tryd.sizeOf109
  v160 := Tryd.zeroValue109
  t162 := Tryd.underlying102
  a162 := Tryd.isAgg102
  z162 := Tryd.sizeOf102
  v162 := Tryd.zeroValue102
  t164 := Tryd.underlying96
  a164 := Tryd.isAgg96
  z164 := Tryd.sizeOf96
  v164 := Tryd.zeroValue96
  t203 := Tryd.underlying100
  a203 := Tryd.isAgg100
  z203 := Tryd.sizeOf100
  v203 := Tryd.zeroValue100
  t206 := Tryd.underlying113
  a206 := Tryd.isAgg113
  z206 := Tryd.sizeOf113
  v206 := Tryd.zeroValue113
  t208 := Tryd.underlying115
  a208 := Tryd.isAgg115
  z208 := Tryd.sizeOf115
  v208 := Tryd.zeroValue115
  g3 := by kernel_rfl
  g4 := by kernel_rfl
  g13 := by kernel_rfl }
theorem Tryd.Builder_Extra_159 : Builder.Extra Tryd.prog Tryd.lays159_ren := {
  sizeBuilder := by kernel_rfl
  liesBuilder := by kernel_rfl
  t5 := Tryd.underlying5
  a5 := Tryd.isAgg5
  z5 := Tryd.sizeOf5
  v5 := Tryd.zeroValue5
  infoByte := by kernel_rfl
  cellsByte := by kernel_rfl
  sizeByte := by kernel_rfl
  neB5 := by decide }
open Go.RowKit in
/-- strings.ToLower: "ToLower returns s with all Unicode letters mapped to their lower case.": ON ASCII TEXT OF AT MOST 2^47 BYTES. Below the heap's end the world is as it was: where a letter turns, the call makes a builder and its buffer. (LAID: no walk: one application.) -/
theorem Tryd.strings_ToLower_ascii (s : ByteArray) (w : World) (hs : s.size ≤ 140737488355328) (hascii : ∀ (j : Nat) (b : UInt8), s.data.toList[j]? = some b → b.toNat < 128) :
    Calls Tryd.prog 29 #[.string s] w fun e w' => e = .returned (.string ⟨(Lib.toLowerA s.data.toList).toArray⟩) ∧ Below w.heap.size w w' := Any.strings_ToLower_ascii Tryd.lays159 Tryd.Builder_Extra_159 s w hs hascii
def Tryd.lays163_ren : Go.Shelf.Ren := ⟨fun | 163 => 28 | 237 => 31 | 199 => 32 | 238 => 33 | 272 => 40 | 261 => 41 | 273 => 42 | 197 => 43 | 315 => 50 | 311 => 51 | 312 => 52 | 271 => 53 | 260 => 54 | 120 => 59 | n => n, fun | 9 => 9 | 37 => 26 | 3 => 3 | 0 => 0 | 5 => 5 | 4 => 4 | 40 => 63 | 119 => 64 | 21 => 21 | 51 => 74 | 141 => 76 | 105 => 78 | 196 => 88 | 193 => 85 | 198 => 91 | 49 => 89 | 194 => 86 | 201 => 94 | 226 => 103 | 46 => 104 | 227 => 105 | 139 => 108 | 138 => 107 | n => n, fun | 0 => 0 | 6 => 1 | 3 => 3 | 4 => 4 | n => n⟩
theorem Tryd.lays163 : Go.Proofs.Lays.n163 Tryd.prog Tryd.lays163_ren := {
  mixed := by kernel_rfl
  f120 := Tryd.func59.trans (congrArg some (by kernel_rfl))
  f163 := Tryd.func28.trans (congrArg some (by kernel_rfl))
  f197 := Tryd.func43.trans (congrArg some (by kernel_rfl))
  f199 := Tryd.func32.trans (congrArg some (by kernel_rfl))
  f237 := Tryd.func31.trans (congrArg some (by kernel_rfl))
  f238 := Tryd.func33.trans (congrArg some (by kernel_rfl))
  f260 := Tryd.func54.trans (congrArg some (by kernel_rfl))
  f261 := Tryd.func41.trans (congrArg some (by kernel_rfl))
  f271 := Tryd.func53.trans (congrArg some (by kernel_rfl))
  f272 := Tryd.func40.trans (congrArg some (by kernel_rfl))
  f273 := Tryd.func42.trans (congrArg some (by kernel_rfl))
  f311 := Tryd.func51.trans (congrArg some (by kernel_rfl))
  f312 := Tryd.func52.trans (congrArg some (by kernel_rfl))
  f315 := Tryd.func50.trans (congrArg some (by kernel_rfl))
  t0 := Tryd.underlying0
  a0 := Tryd.isAgg0
  z0 := Tryd.sizeOf0
  v0 := Tryd.zeroValue0
  t3 := Tryd.underlying3
  a3 := Tryd.isAgg3
  z3 := Tryd.sizeOf3
  v3 := Tryd.zeroValue3
  t4 := Tryd.underlying4
  a4 := Tryd.isAgg4
  z4 := Tryd.sizeOf4
  v4 := Tryd.zeroValue4
  t5 := Tryd.underlying5
  a5 := Tryd.isAgg5
  z5 := Tryd.sizeOf5
  v5 := Tryd.zeroValue5
  t9 := Tryd.underlying9
  a9 := Tryd.isAgg9
  z9 := Tryd.sizeOf9
  v9 := Tryd.zeroValue9
  t21 := Tryd.underlying21
  a21 := Tryd.isAgg21
  z21 := Tryd.sizeOf21
  v21 := Tryd.zeroValue21
  t37 := Tryd.underlying26
  a37 := Tryd.isAgg26
  z37 := Tryd.sizeOf26
  v37 := Tryd.zeroValue26
  t40 := Tryd.underlying63
  a40 := Tryd.isAgg63
  z40 := Tryd.sizeOf63
  v40 := Tryd.zeroValue63
  t46 := Tryd.underlying104
  a46 := Tryd.isAgg104
  z46 := Tryd.sizeOf104
  v46 := Tryd.zeroValue104
  t49 := Tryd.underlying89
  a49 := Tryd.isAgg89
  z49 := Tryd.sizeOf89
  v49 := Tryd.zeroValue89
  t51 := Tryd.underlying74
  a51 := Tryd.isAgg74
  z51 := Tryd.sizeOf74
  v51 := Tryd.zeroValue74
  t105 := Tryd.underlying78
  a105 := Tryd.isAgg78
  z105 := Tryd.sizeOf78
  v105 := Tryd.zeroValue78
  t119 := Tryd.underlying64
  a119 := Tryd.isAgg64
  z119 := Tryd.sizeOf64
  t138 := Tryd.underlying107
  a138 := Tryd.isAgg107
  z138 := Tryd.sizeOf107
  v138 := Tryd.zeroValue107
  t139 := Tryd.underlying108
  a139 := Tryd.isAgg108
  z139 := Tryd.sizeOf108
  v139 := Tryd.zeroValue108
  t141 := Tryd.underlying76
  a141 := Tryd.isAgg76
  z141 := Tryd.sizeOf76
  v141 := Tryd.zeroValue76
  t193 := Tryd.underlying85
  a193 := Tryd.isAgg85
  z193 := Tryd.sizeOf85
  v193 := Tryd.zeroValue85
  t194 := Tryd.underlying86
  a194 := Tryd.isAgg86
  z194 := Tryd.sizeOf86
  v194 := Tryd.zeroValue86
  t196 := Tryd.underlying88
  a196 := Tryd.isAgg88
  z196 := Tryd.sizeOf88
  v196 := Tryd.zeroValue88
  t198 := Tryd.underlying91
  a198 := Tryd.isAgg91
  z198 := Tryd.sizeOf91
  v198 := Tryd.zeroValue91
  t201 := Tryd.underlying94
  a201 := Tryd.isAgg94
  z201 := Tryd.sizeOf94
  v201 := Tryd.zeroValue94
  t226 := Tryd.underlying103
  a226 := Tryd.isAgg103
  z226 := Tryd.sizeOf103
  v226 := Tryd.zeroValue103
  t227 := Tryd.underlying105
  a227 := Tryd.isAgg105
  z227 := Tryd.sizeOf105
  v227 := Tryd.zeroValue105
  g0 := by kernel_rfl
  g3 := by kernel_rfl
  g4 := by kernel_rfl
  g6 := by kernel_rfl }
theorem Tryd.Space_Extra_163 : Space.Extra Tryd.prog Tryd.lays163_ren := {
  gNamed := by kernel_rfl }
open Go.RowKit in
theorem Tryd.strings_TrimSpace (s : ByteArray) (w : World) (hs : s.size ≤ 9223372036854775807) (hascii : ∀ (j : Nat) b, s.data.toList[j]? = some b → b.toNat < 128) (htab : Lib.TabIs Tryd.prog w "strings.asciiSpace" .u8 Lib.asciiSpaceTab) :
    Calls Tryd.prog 28 #[.string s] w fun e w' => e = .returned (.string ⟨(Lib.trimSpace s.data.toList).toArray⟩) ∧ w' = Lib.bytesWorld w 5 s := Any.strings_TrimSpace Tryd.lays163 Tryd.Space_Extra_163 s w hs hascii htab
def Tryd.lays118_ren : Go.Shelf.Ren := ⟨fun | 118 => 46 | n => n, fun | 21 => 21 | 3 => 3 | 4 => 4 | n => n, fun | n => n⟩
theorem Tryd.lays118 : Go.Proofs.Lays.n118 Tryd.prog Tryd.lays118_ren := {
  mixed := by kernel_rfl
  f118 := Tryd.func46.trans (congrArg some (by kernel_rfl))
  t3 := Tryd.underlying3
  a3 := Tryd.isAgg3
  z3 := Tryd.sizeOf3
  v3 := Tryd.zeroValue3
  t4 := Tryd.underlying4
  a4 := Tryd.isAgg4
  z4 := Tryd.sizeOf4
  v4 := Tryd.zeroValue4
  t21 := Tryd.underlying21
  a21 := Tryd.isAgg21
  z21 := Tryd.sizeOf21
  v21 := Tryd.zeroValue21 }
/-- utf8.RuneLen: "RuneLen returns the number of bytes in the UTF-8 encoding of the rune. It returns -1 if the rune is not a valid value to encode in UTF-8.": IT RETURNS 'Lib.runeLen r'; the world is as it was. (LAID: no walk: one application.) -/
theorem Tryd.utf8_RuneLen (r : Int) (w : World) :
    Calls Tryd.prog 46 #[.int .i32 r] w fun e w' => e = .returned (.int .i64 (Lib.runeLen r)) ∧ w' = w := Any.utf8_RuneLen Tryd.lays118 r w
def Tryd.lays120_ren : Go.Shelf.Ren := ⟨fun | 120 => 59 | n => n, fun | 5 => 5 | 4 => 4 | n => n, fun | n => n⟩
theorem Tryd.lays120 : Go.Proofs.Lays.n120 Tryd.prog Tryd.lays120_ren := {
  mixed := by kernel_rfl
  f120 := Tryd.func59.trans (congrArg some (by kernel_rfl))
  t4 := Tryd.underlying4
  a4 := Tryd.isAgg4
  z4 := Tryd.sizeOf4
  v4 := Tryd.zeroValue4
  t5 := Tryd.underlying5
  a5 := Tryd.isAgg5
  z5 := Tryd.sizeOf5
  v5 := Tryd.zeroValue5 }
/-- utf8.RuneStart: "RuneStart reports whether the byte could be the first byte of an encoded, possibly invalid rune. Second and subsequent bytes always have the top two bits set to 10.": IT RETURNS 'Lib.runeStart b'; the world is as it was. ('h0', 'h1': b is a byte: a caller has it of every byte that it was handed.) (LAID: no walk: one application.) -/
theorem Tryd.utf8_RuneStart (b : Int) (w : World) (h0 : 0 ≤ b) (h1 : b < 256) :
    Calls Tryd.prog 59 #[.int .u8 b] w fun e w' => e = .returned (.bool (Lib.runeStart b)) ∧ w' = w := Any.utf8_RuneStart Tryd.lays120 b w h0 h1
def Tryd.lays199_ren : Go.Shelf.Ren := ⟨fun | 199 => 32 | 261 => 41 | 311 => 51 | 312 => 52 | n => n, fun | 21 => 21 | 4 => 4 | 51 => 74 | 141 => 76 | 0 => 0 | 196 => 88 | 193 => 85 | 3 => 3 | 198 => 91 | 49 => 89 | 194 => 86 | 201 => 94 | 226 => 103 | 46 => 104 | 227 => 105 | n => n, fun | 6 => 1 | n => n⟩
theorem Tryd.lays199 : Go.Proofs.Lays.n199 Tryd.prog Tryd.lays199_ren := {
  mixed := by kernel_rfl
  f199 := Tryd.func32.trans (congrArg some (by kernel_rfl))
  f261 := Tryd.func41.trans (congrArg some (by kernel_rfl))
  f311 := Tryd.func51.trans (congrArg some (by kernel_rfl))
  f312 := Tryd.func52.trans (congrArg some (by kernel_rfl))
  t0 := Tryd.underlying0
  a0 := Tryd.isAgg0
  z0 := Tryd.sizeOf0
  v0 := Tryd.zeroValue0
  t3 := Tryd.underlying3
  a3 := Tryd.isAgg3
  z3 := Tryd.sizeOf3
  v3 := Tryd.zeroValue3
  t4 := Tryd.underlying4
  a4 := Tryd.isAgg4
  z4 := Tryd.sizeOf4
  v4 := Tryd.zeroValue4
  t21 := Tryd.underlying21
  a21 := Tryd.isAgg21
  z21 := Tryd.sizeOf21
  v21 := Tryd.zeroValue21
  t46 := Tryd.underlying104
  a46 := Tryd.isAgg104
  z46 := Tryd.sizeOf104
  v46 := Tryd.zeroValue104
  t49 := Tryd.underlying89
  a49 := Tryd.isAgg89
  z49 := Tryd.sizeOf89
  v49 := Tryd.zeroValue89
  t51 := Tryd.underlying74
  a51 := Tryd.isAgg74
  z51 := Tryd.sizeOf74
  v51 := Tryd.zeroValue74
  t141 := Tryd.underlying76
  a141 := Tryd.isAgg76
  z141 := Tryd.sizeOf76
  v141 := Tryd.zeroValue76
  t193 := Tryd.underlying85
  a193 := Tryd.isAgg85
  z193 := Tryd.sizeOf85
  v193 := Tryd.zeroValue85
  t194 := Tryd.underlying86
  a194 := Tryd.isAgg86
  z194 := Tryd.sizeOf86
  v194 := Tryd.zeroValue86
  t196 := Tryd.underlying88
  a196 := Tryd.isAgg88
  z196 := Tryd.sizeOf88
  v196 := Tryd.zeroValue88
  t198 := Tryd.underlying91
  a198 := Tryd.isAgg91
  z198 := Tryd.sizeOf91
  v198 := Tryd.zeroValue91
  t201 := Tryd.underlying94
  a201 := Tryd.isAgg94
  z201 := Tryd.sizeOf94
  v201 := Tryd.zeroValue94
  t226 := Tryd.underlying103
  a226 := Tryd.isAgg103
  z226 := Tryd.sizeOf103
  v226 := Tryd.zeroValue103
  t227 := Tryd.underlying105
  a227 := Tryd.isAgg105
  z227 := Tryd.sizeOf105
  v227 := Tryd.zeroValue105
  g6 := by kernel_rfl }
open Go.RowKit Go.Lib in
theorem Tryd.unicode_IsSpace (r : Int) (w : World) (h0 : 0 ≤ r) (h : r ≤ 255) :
    Calls Tryd.prog 32 #[.int .i32 r] w fun e w' => e = .returned (.bool (Lib.isSpaceL r)) ∧ w' = w := Any.unicode_IsSpace Tryd.lays199 r w h0 h
def Tryd.lays204_ren : Go.Shelf.Ren := ⟨fun | 204 => 39 | 262 => 49 | 313 => 58 | 274 => 61 | 275 => 62 | n => n, fun | 21 => 21 | 4 => 4 | 3 => 3 | 162 => 102 | 203 => 100 | 160 => 109 | 46 => 104 | 0 => 0 | 208 => 115 | 51 => 74 | 206 => 113 | n => n, fun | 13 => 2 | n => n⟩
theorem Tryd.lays204 : Go.Proofs.Lays.n204 Tryd.prog Tryd.lays204_ren := {
  mixed := by kernel_rfl
  f204 := Tryd.func39.trans (congrArg some (by kernel_rfl))
  f262 := Tryd.func49.trans (congrArg some (by kernel_rfl))
  f274 := Tryd.func61.trans (congrArg some (by kernel_rfl))
  f275 := Tryd.func62.trans (congrArg some (by kernel_rfl))
  f313 := Tryd.func58.trans (congrArg some (by kernel_rfl))
  t0 := Tryd.underlying0
  a0 := Tryd.isAgg0
  z0 := Tryd.sizeOf0
  v0 := Tryd.zeroValue0
  t3 := Tryd.underlying3
  a3 := Tryd.isAgg3
  z3 := Tryd.sizeOf3
  v3 := Tryd.zeroValue3
  t4 := Tryd.underlying4
  a4 := Tryd.isAgg4
  z4 := Tryd.sizeOf4
  v4 := Tryd.zeroValue4
  t21 := Tryd.underlying21
  a21 := Tryd.isAgg21
  z21 := Tryd.sizeOf21
  v21 := Tryd.zeroValue21
  t46 := Tryd.underlying104
  a46 := Tryd.isAgg104
  z46 := Tryd.sizeOf104
  v46 := Tryd.zeroValue104
  t51 := Tryd.underlying74
  a51 := Tryd.isAgg74
  z51 := Tryd.sizeOf74
  v51 := Tryd.zeroValue74
  t160 := Tryd.underlying109
  a160 := Tryd.isAgg109
  z160 := Tryd.sizeOf109
  v160 := Tryd.zeroValue109
  t162 := Tryd.underlying102
  a162 := Tryd.isAgg102
  z162 := Tryd.sizeOf102
  v162 := Tryd.zeroValue102
  t203 := Tryd.underlying100
  a203 := Tryd.isAgg100
  z203 := Tryd.sizeOf100
  v203 := Tryd.zeroValue100
  t206 := Tryd.underlying113
  a206 := Tryd.isAgg113
  z206 := Tryd.sizeOf113
  v206 := Tryd.zeroValue113
  t208 := Tryd.underlying115
  a208 := Tryd.isAgg115
  z208 := Tryd.sizeOf115
  v208 := Tryd.zeroValue115
  g13 := by kernel_rfl }
open Go.RowKit Go.Lib in
theorem Tryd.unicode_ToLower (r : Int) (w : World) (h : r ≤ 127) :
    Calls Tryd.prog 39 #[.int .i32 r] w fun e w' => e = .returned (.int .i32 (Lib.toLowerR r)) ∧ w' = w := Any.unicode_ToLower Tryd.lays204 r w h
def Tryd.lays260_ren : Go.Shelf.Ren := ⟨fun | 260 => 54 | n => n, fun | 9 => 9 | 21 => 21 | 3 => 3 | 4 => 4 | 5 => 5 | 119 => 64 | 0 => 0 | 46 => 104 | 139 => 108 | 138 => 107 | n => n, fun | 3 => 3 | 4 => 4 | n => n⟩
theorem Tryd.lays260 : Go.Proofs.Lays.n260 Tryd.prog Tryd.lays260_ren := {
  mixed := by kernel_rfl
  f260 := Tryd.func54.trans (congrArg some (by kernel_rfl))
  t0 := Tryd.underlying0
  a0 := Tryd.isAgg0
  z0 := Tryd.sizeOf0
  v0 := Tryd.zeroValue0
  t3 := Tryd.underlying3
  a3 := Tryd.isAgg3
  z3 := Tryd.sizeOf3
  v3 := Tryd.zeroValue3
  t4 := Tryd.underlying4
  a4 := Tryd.isAgg4
  z4 := Tryd.sizeOf4
  v4 := Tryd.zeroValue4
  t5 := Tryd.underlying5
  a5 := Tryd.isAgg5
  z5 := Tryd.sizeOf5
  v5 := Tryd.zeroValue5
  t9 := Tryd.underlying9
  a9 := Tryd.isAgg9
  z9 := Tryd.sizeOf9
  v9 := Tryd.zeroValue9
  t21 := Tryd.underlying21
  a21 := Tryd.isAgg21
  z21 := Tryd.sizeOf21
  v21 := Tryd.zeroValue21
  t46 := Tryd.underlying104
  a46 := Tryd.isAgg104
  z46 := Tryd.sizeOf104
  v46 := Tryd.zeroValue104
  t119 := Tryd.underlying64
  a119 := Tryd.isAgg64
  z119 := Tryd.sizeOf64
  t138 := Tryd.underlying107
  a138 := Tryd.isAgg107
  z138 := Tryd.sizeOf107
  v138 := Tryd.zeroValue107
  t139 := Tryd.underlying108
  a139 := Tryd.isAgg108
  z139 := Tryd.sizeOf108
  v139 := Tryd.zeroValue108
  g3 := by kernel_rfl
  g4 := by kernel_rfl }
open Go.RowKit Go.Lib in
theorem Tryd.utf8_decodeRuneInStringSlow (s : ByteArray) (w : World) (hT : Lib.Utf8Tabs 3 4 w) :
    Calls Tryd.prog 54 #[.string s] w fun e w' => e = .returned (.tuple #[.int .i32 (Lib.decodeGo s).1, .int .i64 (Lib.decodeGo s).2]) ∧ Below w.heap.size w w' := Any.utf8_decodeRuneInStringSlow Tryd.lays260 s w hT
def Tryd.lays311_ren : Go.Shelf.Ren := ⟨fun | 311 => 51 | n => n, fun | 193 => 85 | 49 => 89 | 4 => 4 | 3 => 3 | 0 => 0 | 226 => 103 | 198 => 91 | 46 => 104 | n => n, fun | n => n⟩
theorem Tryd.lays311 : Go.Proofs.Lays.n311 Tryd.prog Tryd.lays311_ren := {
  mixed := by kernel_rfl
  f311 := Tryd.func51.trans (congrArg some (by kernel_rfl))
  t0 := Tryd.underlying0
  a0 := Tryd.isAgg0
  z0 := Tryd.sizeOf0
  v0 := Tryd.zeroValue0
  t3 := Tryd.underlying3
  a3 := Tryd.isAgg3
  z3 := Tryd.sizeOf3
  v3 := Tryd.zeroValue3
  t4 := Tryd.underlying4
  a4 := Tryd.isAgg4
  z4 := Tryd.sizeOf4
  v4 := Tryd.zeroValue4
  t46 := Tryd.underlying104
  a46 := Tryd.isAgg104
  z46 := Tryd.sizeOf104
  v46 := Tryd.zeroValue104
  t49 := Tryd.underlying89
  a49 := Tryd.isAgg89
  z49 := Tryd.sizeOf89
  v49 := Tryd.zeroValue89
  t193 := Tryd.underlying85
  a193 := Tryd.isAgg85
  z193 := Tryd.sizeOf85
  v193 := Tryd.zeroValue85
  t198 := Tryd.underlying91
  a198 := Tryd.isAgg91
  z198 := Tryd.sizeOf91
  v198 := Tryd.zeroValue91
  t226 := Tryd.underlying103
  a226 := Tryd.isAgg103
  z226 := Tryd.sizeOf103
  v226 := Tryd.zeroValue103 }
open Go.RowKit Go.Lib in
theorem Tryd.unicode_is16_white (R oR : Nat) (z : Nat) (w : World) (hz : z < 65536) (hz0 : 255 < z) (c6 : w.cell? ⟨R, oR + 6, none⟩ = some (.int .u16 160)) (c7 : w.cell? ⟨R, oR + 7, none⟩ = some (.int .u16 5760)) (c8 : w.cell? ⟨R, oR + 8, none⟩ = some (.int .u16 5600)) (c9 : w.cell? ⟨R, oR + 9, none⟩ = some (.int .u16 8192)) (c10 : w.cell? ⟨R, oR + 10, none⟩ = some (.int .u16 8202)) (c11 : w.cell? ⟨R, oR + 11, none⟩ = some (.int .u16 1)) (c12 : w.cell? ⟨R, oR + 12, none⟩ = some (.int .u16 8232)) (c13 : w.cell? ⟨R, oR + 13, none⟩ = some (.int .u16 8233)) (c14 : w.cell? ⟨R, oR + 14, none⟩ = some (.int .u16 1)) (c15 : w.cell? ⟨R, oR + 15, none⟩ = some (.int .u16 8239)) (c16 : w.cell? ⟨R, oR + 16, none⟩ = some (.int .u16 8287)) (c17 : w.cell? ⟨R, oR + 17, none⟩ = some (.int .u16 48)) (c18 : w.cell? ⟨R, oR + 18, none⟩ = some (.int .u16 12288)) (c19 : w.cell? ⟨R, oR + 19, none⟩ = some (.int .u16 12288)) (c20 : w.cell? ⟨R, oR + 20, none⟩ = some (.int .u16 1)) :
    Calls Tryd.prog 51 #[.slice (some ⟨R, oR + 6, none⟩) 5 5, .int .u16 z] w fun e w' => e = .returned (.bool (Lib.isSpaceR z)) ∧ Below w.heap.size w w' := Any.unicode_is16_white Tryd.lays311 R oR z w hz hz0 c6 c7 c8 c9 c10 c11 c12 c13 c14 c15 c16 c17 c18 c19 c20
def Tryd.lays261_ren : Go.Shelf.Ren := ⟨fun | 261 => 41 | 311 => 51 | 312 => 52 | n => n, fun | 141 => 76 | 21 => 21 | 4 => 4 | 0 => 0 | 196 => 88 | 193 => 85 | 3 => 3 | 51 => 74 | 198 => 91 | 49 => 89 | 194 => 86 | 201 => 94 | 226 => 103 | 46 => 104 | 227 => 105 | n => n, fun | n => n⟩
theorem Tryd.lays261 : Go.Proofs.Lays.n261 Tryd.prog Tryd.lays261_ren := {
  mixed := by kernel_rfl
  f261 := Tryd.func41.trans (congrArg some (by kernel_rfl))
  f311 := Tryd.func51.trans (congrArg some (by kernel_rfl))
  f312 := Tryd.func52.trans (congrArg some (by kernel_rfl))
  t0 := Tryd.underlying0
  a0 := Tryd.isAgg0
  z0 := Tryd.sizeOf0
  v0 := Tryd.zeroValue0
  t3 := Tryd.underlying3
  a3 := Tryd.isAgg3
  z3 := Tryd.sizeOf3
  v3 := Tryd.zeroValue3
  t4 := Tryd.underlying4
  a4 := Tryd.isAgg4
  z4 := Tryd.sizeOf4
  v4 := Tryd.zeroValue4
  t21 := Tryd.underlying21
  a21 := Tryd.isAgg21
  z21 := Tryd.sizeOf21
  v21 := Tryd.zeroValue21
  t46 := Tryd.underlying104
  a46 := Tryd.isAgg104
  z46 := Tryd.sizeOf104
  v46 := Tryd.zeroValue104
  t49 := Tryd.underlying89
  a49 := Tryd.isAgg89
  z49 := Tryd.sizeOf89
  v49 := Tryd.zeroValue89
  t51 := Tryd.underlying74
  a51 := Tryd.isAgg74
  z51 := Tryd.sizeOf74
  v51 := Tryd.zeroValue74
  t141 := Tryd.underlying76
  a141 := Tryd.isAgg76
  z141 := Tryd.sizeOf76
  v141 := Tryd.zeroValue76
  t193 := Tryd.underlying85
  a193 := Tryd.isAgg85
  z193 := Tryd.sizeOf85
  v193 := Tryd.zeroValue85
  t194 := Tryd.underlying86
  a194 := Tryd.isAgg86
  z194 := Tryd.sizeOf86
  v194 := Tryd.zeroValue86
  t196 := Tryd.underlying88
  a196 := Tryd.isAgg88
  z196 := Tryd.sizeOf88
  v196 := Tryd.zeroValue88
  t198 := Tryd.underlying91
  a198 := Tryd.isAgg91
  z198 := Tryd.sizeOf91
  v198 := Tryd.zeroValue91
  t201 := Tryd.underlying94
  a201 := Tryd.isAgg94
  z201 := Tryd.sizeOf94
  v201 := Tryd.zeroValue94
  t226 := Tryd.underlying103
  a226 := Tryd.isAgg103
  z226 := Tryd.sizeOf103
  v226 := Tryd.zeroValue103
  t227 := Tryd.underlying105
  a227 := Tryd.isAgg105
  z227 := Tryd.sizeOf105
  v227 := Tryd.zeroValue105 }
open Go.RowKit Go.Lib in
/-- unicode.isExcludingLatin(White_Space, r), r beyond U+00FF or negative. (LAID: no walk: one application.) -/
theorem Tryd.unicode_isExcludingLatin_white (T oT R oR : Nat) (r : Int) (w : World) (hlo : -2147483648 ≤ r) (hhi : r ≤ 2147483647) (hr : r < 0 ∨ 255 < r) (h2 : w.cell? ⟨T, oT, none⟩ = some (.slice (some ⟨R, oR, none⟩) 7 7)) (h3 : w.cell? ⟨T, oT + 1, none⟩ = some (.slice none 0 0)) (h4 : w.cell? ⟨T, oT + 2, none⟩ = some (.int .i64 2)) (h5 : ∀ i, i < 21 → w.cell? ⟨R, oR + i, none⟩ = some (.int .u16 (whiteT.getD i 0))) :
    Calls Tryd.prog 41 #[.pointer (some ⟨T, oT, none⟩), .int .i32 r] w fun e w' => e = .returned (.bool (Lib.isSpaceZ r)) ∧ Below w.heap.size w w' := Any.unicode_isExcludingLatin_white Tryd.lays261 T oT R oR r w hlo hhi hr h2 h3 h4 h5
open Go.RowKit Go.Lib in
/-- **unicode.IsSpace AT EVERY int32.** (LAID: no walk: one application.) -/
theorem Tryd.unicode_IsSpace_any (r : Int) (w : World) (hlo : -2147483648 ≤ r) (hhi : r ≤ 2147483647) (hW : Lib.WhiteTab 1 w) :
    Calls Tryd.prog 32 #[.int .i32 r] w fun e w' => e = .returned (.bool (Lib.isSpaceZ r)) ∧ Below w.heap.size w w' := Any.unicode_IsSpace_any Tryd.lays199 r w hlo hhi hW
def Tryd.lays274_ren : Go.Shelf.Ren := ⟨fun | 274 => 61 | n => n, fun | 21 => 21 | 162 => 102 | 160 => 109 | 3 => 3 | 4 => 4 | 46 => 104 | 0 => 0 | 208 => 115 | 51 => 74 | 206 => 113 | n => n, fun | n => n⟩
theorem Tryd.lays274 : Go.Proofs.Lays.n274 Tryd.prog Tryd.lays274_ren := {
  mixed := by kernel_rfl
  f274 := Tryd.func61.trans (congrArg some (by kernel_rfl))
  t0 := Tryd.underlying0
  a0 := Tryd.isAgg0
  z0 := Tryd.sizeOf0
  v0 := Tryd.zeroValue0
  t3 := Tryd.underlying3
  a3 := Tryd.isAgg3
  z3 := Tryd.sizeOf3
  v3 := Tryd.zeroValue3
  t4 := Tryd.underlying4
  a4 := Tryd.isAgg4
  z4 := Tryd.sizeOf4
  v4 := Tryd.zeroValue4
  t21 := Tryd.underlying21
  a21 := Tryd.isAgg21
  z21 := Tryd.sizeOf21
  v21 := Tryd.zeroValue21
  t46 := Tryd.underlying104
  a46 := Tryd.isAgg104
  z46 := Tryd.sizeOf104
  v46 := Tryd.zeroValue104
  t51 := Tryd.underlying74
  a51 := Tryd.isAgg74
  z51 := Tryd.sizeOf74
  v51 := Tryd.zeroValue74
  t160 := Tryd.underlying109
  a160 := Tryd.isAgg109
  z160 := Tryd.sizeOf109
  v160 := Tryd.zeroValue109
  t162 := Tryd.underlying102
  a162 := Tryd.isAgg102
  z162 := Tryd.sizeOf102
  v162 := Tryd.zeroValue102
  t208 := Tryd.underlying115
  a208 := Tryd.isAgg115
  z208 := Tryd.sizeOf115
  v208 := Tryd.zeroValue115 }
open Go.RowKit Go.Lib in
theorem Tryd.unicode_lookupCaseRange (T : Array CaseRow) (R oR cap : Nat) (r : Int) (w : World) (hT : CaseTab R oR T w) (hok : CaseOk T) (hn : T.size ≤ 1000000000) :
    Calls Tryd.prog 61 #[.int .i32 r, .slice (some ⟨R, oR, none⟩) T.size cap] w fun e w' =>
      e = .returned (match lookupIdx T r (T.size + 1) 0 T.size with | some i => .pointer (some ⟨R, oR + i * 5, none⟩) | none => .pointer none) ∧ w' = w := Any.unicode_lookupCaseRange Tryd.lays274 T R oR cap r w hT hok hn
def Tryd.lays275_ren : Go.Shelf.Ren := ⟨fun | 275 => 62 | n => n, fun | 3 => 3 | 21 => 21 | 160 => 109 | 0 => 0 | 208 => 115 | 206 => 113 | 4 => 4 | 51 => 74 | n => n, fun | n => n⟩
theorem Tryd.lays275 : Go.Proofs.Lays.n275 Tryd.prog Tryd.lays275_ren := {
  mixed := by kernel_rfl
  f275 := Tryd.func62.trans (congrArg some (by kernel_rfl))
  t0 := Tryd.underlying0
  a0 := Tryd.isAgg0
  z0 := Tryd.sizeOf0
  v0 := Tryd.zeroValue0
  t3 := Tryd.underlying3
  a3 := Tryd.isAgg3
  z3 := Tryd.sizeOf3
  v3 := Tryd.zeroValue3
  t4 := Tryd.underlying4
  a4 := Tryd.isAgg4
  z4 := Tryd.sizeOf4
  v4 := Tryd.zeroValue4
  t21 := Tryd.underlying21
  a21 := Tryd.isAgg21
  z21 := Tryd.sizeOf21
  v21 := Tryd.zeroValue21
  t51 := Tryd.underlying74
  a51 := Tryd.isAgg74
  z51 := Tryd.sizeOf74
  v51 := Tryd.zeroValue74
  t160 := Tryd.underlying109
  a160 := Tryd.isAgg109
  z160 := Tryd.sizeOf109
  v160 := Tryd.zeroValue109
  t206 := Tryd.underlying113
  a206 := Tryd.isAgg113
  z206 := Tryd.sizeOf113
  v206 := Tryd.zeroValue113
  t208 := Tryd.underlying115
  a208 := Tryd.isAgg115
  z208 := Tryd.sizeOf115
  v208 := Tryd.zeroValue115 }
open Go.RowKit Go.Lib in
theorem Tryd.unicode_convertCase (c : Nat) (hc : c < 3) (r : Int) (A o : Nat) (x : CaseRow) (w : World) (hlo : (x.1 : Int) ≤ r) (hhi : r ≤ (x.2.1 : Int)) (hH : x.2.1 < 2147483647) (c0 : w.cell? ⟨A, o, none⟩ = some (.int .u32 x.1)) (cD : w.cell? ⟨A, o + 2 + c, none⟩ = some (.int .i32 (x.delta c))) :
    Calls Tryd.prog 62 #[.int .i64 c, .int .i32 r, .pointer (some ⟨A, o, none⟩)] w fun e w' => e = .returned (.int .i32 (wrap32 (convertR c r x))) ∧ ∃ q, w' = w.drewN q := Any.unicode_convertCase Tryd.lays275 c hc r A o x w hlo hhi hH c0 cD
def Tryd.lays313_ren : Go.Shelf.Ren := ⟨fun | 313 => 58 | 274 => 61 | 275 => 62 | n => n, fun | 3 => 3 | 21 => 21 | 162 => 102 | 4 => 4 | 160 => 109 | 46 => 104 | 0 => 0 | 208 => 115 | 51 => 74 | 206 => 113 | n => n, fun | n => n⟩
theorem Tryd.lays313 : Go.Proofs.Lays.n313 Tryd.prog Tryd.lays313_ren := {
  mixed := by kernel_rfl
  f274 := Tryd.func61.trans (congrArg some (by kernel_rfl))
  f275 := Tryd.func62.trans (congrArg some (by kernel_rfl))
  f313 := Tryd.func58.trans (congrArg some (by kernel_rfl))
  t0 := Tryd.underlying0
  a0 := Tryd.isAgg0
  z0 := Tryd.sizeOf0
  v0 := Tryd.zeroValue0
  t3 := Tryd.underlying3
  a3 := Tryd.isAgg3
  z3 := Tryd.sizeOf3
  v3 := Tryd.zeroValue3
  t4 := Tryd.underlying4
  a4 := Tryd.isAgg4
  z4 := Tryd.sizeOf4
  v4 := Tryd.zeroValue4
  t21 := Tryd.underlying21
  a21 := Tryd.isAgg21
  z21 := Tryd.sizeOf21
  v21 := Tryd.zeroValue21
  t46 := Tryd.underlying104
  a46 := Tryd.isAgg104
  z46 := Tryd.sizeOf104
  v46 := Tryd.zeroValue104
  t51 := Tryd.underlying74
  a51 := Tryd.isAgg74
  z51 := Tryd.sizeOf74
  v51 := Tryd.zeroValue74
  t160 := Tryd.underlying109
  a160 := Tryd.isAgg109
  z160 := Tryd.sizeOf109
  v160 := Tryd.zeroValue109
  t162 := Tryd.underlying102
  a162 := Tryd.isAgg102
  z162 := Tryd.sizeOf102
  v162 := Tryd.zeroValue102
  t206 := Tryd.underlying113
  a206 := Tryd.isAgg113
  z206 := Tryd.sizeOf113
  v206 := Tryd.zeroValue113
  t208 := Tryd.underlying115
  a208 := Tryd.isAgg115
  z208 := Tryd.sizeOf115
  v208 := Tryd.zeroValue115 }
open Go.RowKit Go.Lib in
theorem Tryd.unicode_to (c : Nat) (hc : c < 3) (r : Int) (T : Array CaseRow) (R oR cap : Nat) (w : World) (hT : CaseTab R oR T w) (hok : CaseOk2 T) (hn : T.size ≤ 1000000000) :
    Calls Tryd.prog 58 #[.int .i64 c, .int .i32 r, .slice (some ⟨R, oR, none⟩) T.size cap] w fun e w' => e = .returned (.tuple #[.int .i32 (toW T c r), .bool (lookupIdx T r (T.size + 1) 0 T.size).isSome]) ∧ ∃ q, w' = w.drewN q := Any.unicode_to Tryd.lays313 c hc r T R oR cap w hT hok hn
def Tryd.lays262_ren : Go.Shelf.Ren := ⟨fun | 262 => 49 | 313 => 58 | 274 => 61 | 275 => 62 | n => n, fun | 3 => 3 | 21 => 21 | 162 => 102 | 203 => 100 | 4 => 4 | 160 => 109 | 46 => 104 | 0 => 0 | 208 => 115 | 51 => 74 | 206 => 113 | n => n, fun | 13 => 2 | n => n⟩
theorem Tryd.lays262 : Go.Proofs.Lays.n262 Tryd.prog Tryd.lays262_ren := {
  mixed := by kernel_rfl
  f262 := Tryd.func49.trans (congrArg some (by kernel_rfl))
  f274 := Tryd.func61.trans (congrArg some (by kernel_rfl))
  f275 := Tryd.func62.trans (congrArg some (by kernel_rfl))
  f313 := Tryd.func58.trans (congrArg some (by kernel_rfl))
  t0 := Tryd.underlying0
  a0 := Tryd.isAgg0
  z0 := Tryd.sizeOf0
  v0 := Tryd.zeroValue0
  t3 := Tryd.underlying3
  a3 := Tryd.isAgg3
  z3 := Tryd.sizeOf3
  v3 := Tryd.zeroValue3
  t4 := Tryd.underlying4
  a4 := Tryd.isAgg4
  z4 := Tryd.sizeOf4
  v4 := Tryd.zeroValue4
  t21 := Tryd.underlying21
  a21 := Tryd.isAgg21
  z21 := Tryd.sizeOf21
  v21 := Tryd.zeroValue21
  t46 := Tryd.underlying104
  a46 := Tryd.isAgg104
  z46 := Tryd.sizeOf104
  v46 := Tryd.zeroValue104
  t51 := Tryd.underlying74
  a51 := Tryd.isAgg74
  z51 := Tryd.sizeOf74
  v51 := Tryd.zeroValue74
  t160 := Tryd.underlying109
  a160 := Tryd.isAgg109
  z160 := Tryd.sizeOf109
  v160 := Tryd.zeroValue109
  t162 := Tryd.underlying102
  a162 := Tryd.isAgg102
  z162 := Tryd.sizeOf102
  v162 := Tryd.zeroValue102
  t203 := Tryd.underlying100
  a203 := Tryd.isAgg100
  z203 := Tryd.sizeOf100
  v203 := Tryd.zeroValue100
  t206 := Tryd.underlying113
  a206 := Tryd.isAgg113
  z206 := Tryd.sizeOf113
  v206 := Tryd.zeroValue113
  t208 := Tryd.underlying115
  a208 := Tryd.isAgg115
  z208 := Tryd.sizeOf115
  v208 := Tryd.zeroValue115
  g13 := by kernel_rfl }
open Go.RowKit Go.Lib in
theorem Tryd.unicode_To (c : Nat) (hc : c < 3) (r : Int) (T : Array CaseRow) (w : World) (hV : CaseVar 2 T w) (hok : CaseOk2 T) (hn : T.size ≤ 1000000000) :
    Calls Tryd.prog 49 #[.int .i64 c, .int .i32 r] w fun e w' => e = .returned (.int .i32 (toW T c r)) ∧ ∃ q, w' = w.drewN q := Any.unicode_To Tryd.lays262 c hc r T w hV hok hn
open Go.RowKit Go.Lib in
theorem Tryd.unicode_ToLower_any (r : Int) (T : Array CaseRow) (w : World) (hV : CaseVar 2 T w) (hok : CaseOk2 T) (hn : T.size ≤ 1000000000) :
    Calls Tryd.prog 39 #[.int .i32 r] w fun e w' => e = .returned (.int .i32 (Lib.toLowerW T r)) ∧ ∃ q, w' = w.drewN q := Any.unicode_ToLower_any Tryd.lays204 r T w hV hok hn
open Go.RowKit Go.Lib in
theorem Tryd.unicode_ToLower_laid (r : Int) (w : World) (hV : CaseVar 2 caseA w) :
    Calls Tryd.prog 39 #[.int .i32 r] w fun e w' => e = .returned (.int .i32 (toLowerU r)) ∧ ∃ q, w' = w.drewN q := Any.unicode_ToLower_laid Tryd.lays204 r w hV
open Go.RowKit Go.Lib in
theorem Tryd.unicode_is16_any (T : Array Rg) (R oR cap : Nat) (z : Nat) (w : World) (hz : z < 65536) (hT : RgTab .u16 R oR T w) (hok : RgOk 65536 T) (hn : T.size ≤ 1000000000) :
    Calls Tryd.prog 51 #[.slice (some ⟨R, oR, none⟩) T.size cap, .int .u16 z] w fun e w' => e = .returned (.bool (is16Go T z)) ∧ ∃ q, w' = w.drewN q := Any.unicode_is16_any Tryd.lays311 T R oR cap z w hz hT hok hn
def Tryd.lays312_ren : Go.Shelf.Ren := ⟨fun | 312 => 52 | n => n, fun | 194 => 86 | 51 => 74 | 4 => 4 | 3 => 3 | 0 => 0 | 227 => 105 | 201 => 94 | 46 => 104 | n => n, fun | n => n⟩
theorem Tryd.lays312 : Go.Proofs.Lays.n312 Tryd.prog Tryd.lays312_ren := {
  mixed := by kernel_rfl
  f312 := Tryd.func52.trans (congrArg some (by kernel_rfl))
  t0 := Tryd.underlying0
  a0 := Tryd.isAgg0
  z0 := Tryd.sizeOf0
  v0 := Tryd.zeroValue0
  t3 := Tryd.underlying3
  a3 := Tryd.isAgg3
  z3 := Tryd.sizeOf3
  v3 := Tryd.zeroValue3
  t4 := Tryd.underlying4
  a4 := Tryd.isAgg4
  z4 := Tryd.sizeOf4
  v4 := Tryd.zeroValue4
  t46 := Tryd.underlying104
  a46 := Tryd.isAgg104
  z46 := Tryd.sizeOf104
  v46 := Tryd.zeroValue104
  t51 := Tryd.underlying74
  a51 := Tryd.isAgg74
  z51 := Tryd.sizeOf74
  v51 := Tryd.zeroValue74
  t194 := Tryd.underlying86
  a194 := Tryd.isAgg86
  z194 := Tryd.sizeOf86
  v194 := Tryd.zeroValue86
  t201 := Tryd.underlying94
  a201 := Tryd.isAgg94
  z201 := Tryd.sizeOf94
  v201 := Tryd.zeroValue94
  t227 := Tryd.underlying105
  a227 := Tryd.isAgg105
  z227 := Tryd.sizeOf105
  v227 := Tryd.zeroValue105 }
open Go.RowKit Go.Lib in
theorem Tryd.unicode_is32_any (T : Array Rg) (R oR cap : Nat) (z : Nat) (w : World) (hz : z < 4294967296) (hT : RgTab .u32 R oR T w) (hok : RgOk 4294967296 T) (hn : T.size ≤ 1000000000) :
    Calls Tryd.prog 52 #[.slice (some ⟨R, oR, none⟩) T.size cap, .int .u32 z] w fun e w' => e = .returned (.bool (is32Go T z)) ∧ Below w.heap.size w w' := Any.unicode_is32_any Tryd.lays312 T R oR cap z w hz hT hok hn
open Go.RowKit Go.Lib in
theorem Tryd.unicode_isExcludingLatin_any (Tb oT : Nat) (T : RTab) (r : Int) (w : World) (hlo : -2147483648 ≤ r) (hhi : r ≤ 2147483647) (hA : RTabAt Tb oT T w) (hok : RTabOk T) :
    Calls Tryd.prog 41 #[.pointer (some ⟨Tb, oT, none⟩), .int .i32 r] w fun e w' => e = .returned (.bool (exclGo T r)) ∧ Below w.heap.size w w' := Any.unicode_isExcludingLatin_any Tryd.lays261 Tb oT T r w hlo hhi hA hok
end Go.Proofs
