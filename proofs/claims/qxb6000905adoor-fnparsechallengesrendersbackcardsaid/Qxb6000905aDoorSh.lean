/-
  DERIVED: THE SHELF's CONTRACTS AT THIS DUMP, IN PLAIN WORDS (tools/lay-plain.mjs out of 'Qxb6000905aDoorSh.lean', which tools/lay-shelf.mjs wrote): THE SAME DECLARATIONS UNDER THE SAME NAMES: 'import', 'namespace', 'open', 'def', 'theorem' AND NOTHING ELSE: no command of the shelf's: FOR A HAND-IN. Each laying: the table of numbers ('.._ren') and one theorem, a field a fact of the dump's own or the kernel's comparison; each contract: ONE APPLICATION.
-/
import Derived.Shelf.Strings.Builder1
import Derived.Shelf.Strings.OnBuilder
import Derived.Shelf.Small.Strs
import Derived.Shelf.Strings.BuilderK
import Derived.Shelf.Strings.Search1
import Derived.Shelf.Strings.Prefix
import Derived.Shelf.Strings.Runes
import Derived.Shelf.Strings.AsciiSet
import Derived.Test.Qxb6000905aDoorProg
namespace Go.Proofs
open Go.Shelf
def Tryd.lays169_ren : Go.Shelf.Ren := ⟨fun | 169 => 38 | n => n, fun | 70 => 65 | 9 => 9 | 0 => 0 | 72 => 67 | 37 => 44 | 127 => 82 | 3 => 3 | 5 => 5 | n => n, fun | n => n⟩
theorem Tryd.lays169 : Go.Proofs.Lays.n169 Tryd.prog Tryd.lays169_ren := {
  mixed := by kernel_rfl
  f169 := Tryd.func38.trans (congrArg some (by kernel_rfl))
  t0 := Tryd.underlying0
  a0 := Tryd.isAgg0
  z0 := Tryd.sizeOf0
  v0 := Tryd.zeroValue0
  t3 := Tryd.underlying3
  a3 := Tryd.isAgg3
  z3 := Tryd.sizeOf3
  v3 := Tryd.zeroValue3
  t9 := Tryd.underlying9
  a9 := Tryd.isAgg9
  z9 := Tryd.sizeOf9
  v9 := Tryd.zeroValue9
  t37 := Tryd.underlying44
  a37 := Tryd.isAgg44
  z37 := Tryd.sizeOf44
  v37 := Tryd.zeroValue44
  t70 := Tryd.underlying65
  a70 := Tryd.isAgg65
  z70 := Tryd.sizeOf65
  v70 := Tryd.zeroValue65
  t72 := Tryd.underlying67
  a72 := Tryd.isAgg67
  z72 := Tryd.sizeOf67
  v72 := Tryd.zeroValue67
  t127 := Tryd.underlying82
  a127 := Tryd.isAgg82
  z127 := Tryd.sizeOf82
  v127 := Tryd.zeroValue82 }
theorem Tryd.Builder_Extra_169 : Builder.Extra Tryd.prog Tryd.lays169_ren := {
  sizeBuilder := by kernel_rfl
  liesBuilder := by kernel_rfl
  t5 := Tryd.underlying5
  a5 := Tryd.isAgg5
  z5 := Tryd.sizeOf5
  v5 := Tryd.zeroValue5
  infoByte := by kernel_rfl
  cellsByte := by kernel_rfl
  sizeByte := by kernel_rfl
  neB5 := by decide }
def Tryd.lays159_ren : Go.Shelf.Ren := ⟨fun | 159 => 25 | 165 => 35 | 166 => 36 | 167 => 37 | 169 => 38 | 230 => 39 | 204 => 40 | 240 => 47 | 241 => 48 | 197 => 44 | 118 => 49 | 168 => 50 | 270 => 51 | 262 => 52 | 276 => 59 | 277 => 60 | 260 => 54 | 242 => 61 | 313 => 62 | 278 => 64 | 274 => 65 | 275 => 66 | n => n, fun | 9 => 9 | 4 => 4 | 3 => 3 | 5 => 5 | 72 => 67 | 0 => 0 | 76 => 71 | 75 => 70 | 107 => 76 | 70 => 65 | 20 => 20 | 37 => 44 | 127 => 82 | 21 => 21 | 105 => 78 | 164 => 91 | 162 => 97 | 203 => 95 | 119 => 98 | 46 => 90 | 139 => 101 | 138 => 100 | 51 => 102 | 160 => 103 | 208 => 109 | 206 => 107 | 80 => 74 | n => n, fun | 13 => 0 | 3 => 1 | 4 => 2 | n => n⟩
theorem Tryd.lays159 : Go.Proofs.Lays.n159 Tryd.prog Tryd.lays159_ren := {
  mixed := by kernel_rfl
  f118 := Tryd.func49.trans (congrArg some (by kernel_rfl))
  f159 := Tryd.func25.trans (congrArg some (by kernel_rfl))
  f165 := Tryd.func35.trans (congrArg some (by kernel_rfl))
  f166 := Tryd.func36.trans (congrArg some (by kernel_rfl))
  f167 := Tryd.func37.trans (congrArg some (by kernel_rfl))
  f168 := Tryd.func50.trans (congrArg some (by kernel_rfl))
  f169 := Tryd.func38.trans (congrArg some (by kernel_rfl))
  f197 := Tryd.func44.trans (congrArg some (by kernel_rfl))
  f204 := Tryd.func40.trans (congrArg some (by kernel_rfl))
  f230 := Tryd.func39.trans (congrArg some (by kernel_rfl))
  f240 := Tryd.func47.trans (congrArg some (by kernel_rfl))
  f241 := Tryd.func48.trans (congrArg some (by kernel_rfl))
  f242 := Tryd.func61.trans (congrArg some (by kernel_rfl))
  f260 := Tryd.func54.trans (congrArg some (by kernel_rfl))
  f262 := Tryd.func52.trans (congrArg some (by kernel_rfl))
  f270 := Tryd.func51.trans (congrArg some (by kernel_rfl))
  f274 := Tryd.func65.trans (congrArg some (by kernel_rfl))
  f275 := Tryd.func66.trans (congrArg some (by kernel_rfl))
  f276 := Tryd.func59.trans (congrArg some (by kernel_rfl))
  f277 := Tryd.func60.trans (congrArg some (by kernel_rfl))
  f278 := Tryd.func64.trans (congrArg some (by kernel_rfl))
  f313 := Tryd.func62.trans (congrArg some (by kernel_rfl))
  t0 := Tryd.underlying0
  a0 := Tryd.isAgg0
  z0 := Tryd.sizeOf0
  v0 := Tryd.zeroValue0
  t3 := Tryd.underlying3
  a3 := Tryd.isAgg3
  z3 := Tryd.sizeOf3
  v3 := Tryd.zeroValue3
  t4 := Tryd.underlying4
  a4 := Tryd.isAgg4
  z4 := Tryd.sizeOf4
  v4 := Tryd.zeroValue4
  t5 := Tryd.underlying5
  a5 := Tryd.isAgg5
  z5 := Tryd.sizeOf5
  v5 := Tryd.zeroValue5
  t9 := Tryd.underlying9
  a9 := Tryd.isAgg9
  z9 := Tryd.sizeOf9
  v9 := Tryd.zeroValue9
  t20 := Tryd.underlying20
  a20 := Tryd.isAgg20
  z20 := Tryd.sizeOf20
  v20 := Tryd.zeroValue20
  t21 := Tryd.underlying21
  a21 := Tryd.isAgg21
  z21 := Tryd.sizeOf21
  v21 := Tryd.zeroValue21
  t37 := Tryd.underlying44
  a37 := Tryd.isAgg44
  z37 := Tryd.sizeOf44
  v37 := Tryd.zeroValue44
  t46 := Tryd.underlying90
  a46 := Tryd.isAgg90
  z46 := Tryd.sizeOf90
  v46 := Tryd.zeroValue90
  t51 := Tryd.underlying102
  a51 := Tryd.isAgg102
  z51 := Tryd.sizeOf102
  v51 := Tryd.zeroValue102
  t70 := Tryd.underlying65
  a70 := Tryd.isAgg65
  z70 := Tryd.sizeOf65
  v70 := Tryd.zeroValue65
  t72 := Tryd.underlying67
  a72 := Tryd.isAgg67
  z72 := Tryd.sizeOf67
  v72 := Tryd.zeroValue67
  t75 := Tryd.underlying70
  a75 := Tryd.isAgg70
  z75 := Tryd.sizeOf70
  v75 := Tryd.zeroValue70
  t76 := Tryd.underlying71
  a76 := Tryd.isAgg71
  z76 := Tryd.sizeOf71
  v76 := Tryd.zeroValue71
  t105 := Tryd.underlying78
  a105 := Tryd.isAgg78
  z105 := Tryd.sizeOf78
  v105 := Tryd.zeroValue78
  t107 := Tryd.underlying76
  a107 := Tryd.isAgg76
  z107 := Tryd.sizeOf76
  v107 := Tryd.zeroValue76
  t119 := Tryd.underlying98
  a119 := Tryd.isAgg98
  z119 := Tryd.sizeOf98
  t127 := Tryd.underlying82
  a127 := Tryd.isAgg82
  z127 := Tryd.sizeOf82
  v127 := Tryd.zeroValue82
  t138 := Tryd.underlying100
  a138 := Tryd.isAgg100
  z138 := Tryd.sizeOf100
  v138 := Tryd.zeroValue100
  t139 := Tryd.underlying101
  a139 := Tryd.isAgg101
  z139 := Tryd.sizeOf101
  v139 := Tryd.zeroValue101
  t160 := Tryd.underlying103
  a160 := Tryd.isAgg103
  z160 := Tryd.sizeOf103
  v160 := Tryd.zeroValue103
  t162 := Tryd.underlying97
  a162 := Tryd.isAgg97
  z162 := Tryd.sizeOf97
  v162 := Tryd.zeroValue97
  t164 := Tryd.underlying91
  a164 := Tryd.isAgg91
  z164 := Tryd.sizeOf91
  v164 := Tryd.zeroValue91
  t203 := Tryd.underlying95
  a203 := Tryd.isAgg95
  z203 := Tryd.sizeOf95
  v203 := Tryd.zeroValue95
  t206 := Tryd.underlying107
  a206 := Tryd.isAgg107
  z206 := Tryd.sizeOf107
  v206 := Tryd.zeroValue107
  t208 := Tryd.underlying109
  a208 := Tryd.isAgg109
  z208 := Tryd.sizeOf109
  v208 := Tryd.zeroValue109
  g3 := by kernel_rfl
  g4 := by kernel_rfl
  g13 := by kernel_rfl }
theorem Tryd.Builder_Extra_159 : Builder.Extra Tryd.prog Tryd.lays159_ren := {
  sizeBuilder := by kernel_rfl
  liesBuilder := by kernel_rfl
  t5 := Tryd.underlying5
  a5 := Tryd.isAgg5
  z5 := Tryd.sizeOf5
  v5 := Tryd.zeroValue5
  infoByte := by kernel_rfl
  cellsByte := by kernel_rfl
  sizeByte := by kernel_rfl
  neB5 := by decide }
open Go.RowKit in
/-- strings.ToLower: "ToLower returns s with all Unicode letters mapped to their lower case.": ON ASCII TEXT OF AT MOST 2^47 BYTES. Below the heap's end the world is as it was: where a letter turns, the call makes a builder and its buffer. (LAID: no walk: one application.) -/
theorem Tryd.strings_ToLower_ascii (s : ByteArray) (w : World) (hs : s.size ≤ 140737488355328) (hascii : ∀ (j : Nat) (b : UInt8), s.data.toList[j]? = some b → b.toNat < 128) :
    Calls Tryd.prog 25 #[.string s] w fun e w' => e = .returned (.string ⟨(Lib.toLowerA s.data.toList).toArray⟩) ∧ Below w.heap.size w w' := Any.strings_ToLower_ascii Tryd.lays159 Tryd.Builder_Extra_159 s w hs hascii
def Tryd.lays137_ren : Go.Shelf.Ren := ⟨fun | 137 => 55 | 217 => 63 | 266 => 67 | n => n, fun | 9 => 9 | 5 => 5 | 3 => 3 | n => n, fun | n => n⟩
theorem Tryd.lays137 : Go.Proofs.Lays.n137 Tryd.prog Tryd.lays137_ren := {
  mixed := by kernel_rfl
  f137 := Tryd.func55.trans (congrArg some (by kernel_rfl))
  f217 := Tryd.func63.trans (congrArg some (by kernel_rfl))
  f266 := Tryd.func67.trans (congrArg some (by kernel_rfl))
  t3 := Tryd.underlying3
  a3 := Tryd.isAgg3
  z3 := Tryd.sizeOf3
  v3 := Tryd.zeroValue3
  t5 := Tryd.underlying5
  a5 := Tryd.isAgg5
  z5 := Tryd.sizeOf5
  v5 := Tryd.zeroValue5
  t9 := Tryd.underlying9
  a9 := Tryd.isAgg9
  z9 := Tryd.sizeOf9
  v9 := Tryd.zeroValue9 }
open Go.RowKit in
/-- strings.IndexByte: "IndexByte returns the index of the first instance of c in s, or -1 if c is not present in s.": IT RETURNS 'Lib.indexByte s c'; the world is as it was. (LAID: no walk: one application.) -/
theorem Tryd.strings_IndexByte (s : ByteArray) (c : Int) (w : World) :
    Calls Tryd.prog 55 #[.string s, .int .u8 c] w fun e w' => e = .returned (.int .i64 (Lib.indexByte s.data.toList c.toNat.toUInt8)) ∧ w' = w := Any.strings_IndexByte Tryd.lays137 s c w
open Go.RowKit in
/-- (*strings.Builder).String: "String returns the accumulated string.": WHATEVER THE BUILDER HOLDS; THE FORM '_k': OVER 'Lib.IsBuilderF' (a builder that 'String()' may have read), AND WITH THE FRAME THAT REACHES ABOVE THE BUILDER: 'Lib.OthersKept': every block that is not b and is no row of uint8's stands as it stood: the iterator of a range among them. (LAID: no walk: one application.) -/
theorem Tryd.Builder_String_any_k (B b : Nat) (l : List UInt8) (w : World) (h : Lib.IsBuilderF 67 5 B b (Lib.byteCells l) w) (hBw : B ≤ w.heap.size) :
    Calls Tryd.prog 38 #[.pointer (some ⟨b, 0, none⟩)] w fun e w' => e = .returned (.string ⟨l.toArray⟩) ∧ (Lib.IsBuilderF 67 5 B b (Lib.byteCells l) w' ∧ Below B w w' ∧ Lib.OthersKept 5 (some b) w w') := Any.Builder_String_any_k Tryd.lays169 Tryd.Builder_Extra_169 B b l w h hBw
def Tryd.lays99_ren : Go.Shelf.Ren := ⟨fun | 99 => 26 | 206 => 41 | n => n, fun | 9 => 9 | 4 => 4 | 3 => 3 | n => n, fun | n => n⟩
theorem Tryd.lays99 : Go.Proofs.Lays.n99 Tryd.prog Tryd.lays99_ren := {
  mixed := by kernel_rfl
  f99 := Tryd.func26.trans (congrArg some (by kernel_rfl))
  f206 := Tryd.func41.trans (congrArg some (by kernel_rfl))
  t3 := Tryd.underlying3
  a3 := Tryd.isAgg3
  z3 := Tryd.sizeOf3
  v3 := Tryd.zeroValue3
  t4 := Tryd.underlying4
  a4 := Tryd.isAgg4
  z4 := Tryd.sizeOf4
  v4 := Tryd.zeroValue4
  t9 := Tryd.underlying9
  a9 := Tryd.isAgg9
  z9 := Tryd.sizeOf9
  v9 := Tryd.zeroValue9 }
open Go.RowKit Go.Lib in
/-- strings.HasPrefix: "HasPrefix reports whether the string s begins with prefix.": IT RETURNS 'Lib.hasPrefix s prefix'; the world is as it was. (LAID: no walk: one application.) -/
theorem Tryd.strings_HasPrefix (s p : ByteArray) (w : World) :
    Calls Tryd.prog 26 #[.string s, .string p] w fun e w' => e = .returned (.bool (Lib.hasPrefix s.data.toList p.data.toList)) ∧ w' = w := Any.strings_HasPrefix Tryd.lays99 s p w
def Tryd.lays151_ren : Go.Shelf.Ren := ⟨fun | 151 => 34 | 152 => 46 | 137 => 55 | 119 => 56 | 224 => 57 | 225 => 58 | 217 => 63 | 266 => 67 | n => n, fun | 9 => 9 | 21 => 21 | 4 => 4 | 3 => 3 | 5 => 5 | 0 => 0 | 46 => 90 | n => n, fun | n => n⟩
theorem Tryd.lays151 : Go.Proofs.Lays.n151 Tryd.prog Tryd.lays151_ren := {
  mixed := by kernel_rfl
  f119 := Tryd.func56.trans (congrArg some (by kernel_rfl))
  f137 := Tryd.func55.trans (congrArg some (by kernel_rfl))
  f151 := Tryd.func34.trans (congrArg some (by kernel_rfl))
  f152 := Tryd.func46.trans (congrArg some (by kernel_rfl))
  f217 := Tryd.func63.trans (congrArg some (by kernel_rfl))
  f224 := Tryd.func57.trans (congrArg some (by kernel_rfl))
  f225 := Tryd.func58.trans (congrArg some (by kernel_rfl))
  f266 := Tryd.func67.trans (congrArg some (by kernel_rfl))
  t0 := Tryd.underlying0
  a0 := Tryd.isAgg0
  z0 := Tryd.sizeOf0
  v0 := Tryd.zeroValue0
  t3 := Tryd.underlying3
  a3 := Tryd.isAgg3
  z3 := Tryd.sizeOf3
  v3 := Tryd.zeroValue3
  t4 := Tryd.underlying4
  a4 := Tryd.isAgg4
  z4 := Tryd.sizeOf4
  v4 := Tryd.zeroValue4
  t5 := Tryd.underlying5
  a5 := Tryd.isAgg5
  z5 := Tryd.sizeOf5
  v5 := Tryd.zeroValue5
  t9 := Tryd.underlying9
  a9 := Tryd.isAgg9
  z9 := Tryd.sizeOf9
  v9 := Tryd.zeroValue9
  t21 := Tryd.underlying21
  a21 := Tryd.isAgg21
  z21 := Tryd.sizeOf21
  v21 := Tryd.zeroValue21
  t46 := Tryd.underlying90
  a46 := Tryd.isAgg90
  z46 := Tryd.sizeOf90
  v46 := Tryd.zeroValue90 }
open Go.RowKit Go.Lib in
theorem Tryd.strings_ContainsRune_ascii (s : ByteArray) (r : Int) (w : World) (h0 : 0 ≤ r) (h1 : r < 128) :
    Calls Tryd.prog 34 #[.string s, .int .i32 r] w fun e w' => e = .returned (.bool (decide (0 ≤ Lib.indexByte s.data.toList r.toNat.toUInt8))) ∧ w' = w := Any.strings_ContainsRune_ascii Tryd.lays151 s r w h0 h1
def Tryd.lays227_ren : Go.Shelf.Ren := ⟨fun | 227 => 29 | n => n, fun | 9 => 9 | 116 => 57 | 4 => 4 | 0 => 0 | 3 => 3 | 5 => 5 | n => n, fun | n => n⟩
theorem Tryd.lays227 : Go.Proofs.Lays.n227 Tryd.prog Tryd.lays227_ren := {
  mixed := by kernel_rfl
  f227 := Tryd.func29.trans (congrArg some (by kernel_rfl))
  t0 := Tryd.underlying0
  a0 := Tryd.isAgg0
  z0 := Tryd.sizeOf0
  v0 := Tryd.zeroValue0
  t3 := Tryd.underlying3
  a3 := Tryd.isAgg3
  z3 := Tryd.sizeOf3
  v3 := Tryd.zeroValue3
  t4 := Tryd.underlying4
  a4 := Tryd.isAgg4
  z4 := Tryd.sizeOf4
  v4 := Tryd.zeroValue4
  t5 := Tryd.underlying5
  a5 := Tryd.isAgg5
  z5 := Tryd.sizeOf5
  v5 := Tryd.zeroValue5
  t9 := Tryd.underlying9
  a9 := Tryd.isAgg9
  z9 := Tryd.sizeOf9
  v9 := Tryd.zeroValue9
  t116 := Tryd.underlying57
  a116 := Tryd.isAgg57
  z116 := Tryd.sizeOf57 }
open Go.RowKit Go.Lib in
theorem Tryd.strings_makeASCIISet (hv116 : ∀ w, (zeroValue 57).run Tryd.prog w = .ok (.agg (Array.replicate 256 (.bool false))) w) (chars : ByteArray) (w : World) (hs : chars.size < 4294967281) (hascii : ∀ (j : Nat) b, chars.data.toList[j]? = some b → b.toNat < 128) :
    Calls Tryd.prog 29 #[.string chars] w fun e w' => e = .returned (.tuple #[.agg (Lib.setCells chars.data.toList), .bool true]) ∧ w' = w.alloc (.cells (Lib.setCells chars.data.toList) 57) := Any.strings_makeASCIISet Tryd.lays227 hv116 (by kernel_rfl) chars w hs hascii
def Tryd.lays228_ren : Go.Shelf.Ren := ⟨fun | 228 => 43 | n => n, fun | 124 => 61 | 5 => 5 | 4 => 4 | 0 => 0 | 116 => 57 | n => n, fun | n => n⟩
theorem Tryd.lays228 : Go.Proofs.Lays.n228 Tryd.prog Tryd.lays228_ren := {
  mixed := by kernel_rfl
  f228 := Tryd.func43.trans (congrArg some (by kernel_rfl))
  t0 := Tryd.underlying0
  a0 := Tryd.isAgg0
  z0 := Tryd.sizeOf0
  v0 := Tryd.zeroValue0
  t4 := Tryd.underlying4
  a4 := Tryd.isAgg4
  z4 := Tryd.sizeOf4
  v4 := Tryd.zeroValue4
  t5 := Tryd.underlying5
  a5 := Tryd.isAgg5
  z5 := Tryd.sizeOf5
  v5 := Tryd.zeroValue5
  t116 := Tryd.underlying57
  a116 := Tryd.isAgg57
  z116 := Tryd.sizeOf57
  t124 := Tryd.underlying61
  a124 := Tryd.isAgg61
  z124 := Tryd.sizeOf61
  v124 := Tryd.zeroValue61 }
open Go.RowKit Go.Lib in
/-- '(as *asciiSet) contains(c)': 'as[c]': the set lies at block b, whole. (LAID: no walk: one application.) -/
theorem Tryd.asciiSet_contains (b : Nat) (x : UInt8) (v : Bool) (w : World) (hc : w.cell? ⟨b, x.toNat, none⟩ = some (.bool v)) :
    Calls Tryd.prog 43 #[.pointer (some ⟨b, 0, none⟩), .int .u8 x.toNat] w fun e w' => e = .returned (.bool v) ∧ w' = w := Any.asciiSet_contains Tryd.lays228 b x v w hc
theorem Tryd.lays167 : Go.Proofs.Lays.n167 Tryd.prog Tryd.lays159_ren := {
  mixed := Tryd.lays159.mixed
  f167 := Tryd.lays159.f167
  f240 := Tryd.lays159.f240
  f276 := Tryd.lays159.f276
  t0 := Tryd.lays159.t0
  a0 := Tryd.lays159.a0
  z0 := Tryd.lays159.z0
  v0 := Tryd.lays159.v0
  t4 := Tryd.lays159.t4
  a4 := Tryd.lays159.a4
  z4 := Tryd.lays159.z4
  v4 := Tryd.lays159.v4
  t5 := Tryd.lays159.t5
  a5 := Tryd.lays159.a5
  z5 := Tryd.lays159.z5
  v5 := Tryd.lays159.v5
  t9 := Tryd.lays159.t9
  a9 := Tryd.lays159.a9
  z9 := Tryd.lays159.z9
  v9 := Tryd.lays159.v9
  t20 := Tryd.lays159.t20
  a20 := Tryd.lays159.a20
  z20 := Tryd.lays159.z20
  v20 := Tryd.lays159.v20
  t37 := Tryd.lays159.t37
  a37 := Tryd.lays159.a37
  z37 := Tryd.lays159.z37
  v37 := Tryd.lays159.v37
  t70 := Tryd.lays159.t70
  a70 := Tryd.lays159.a70
  z70 := Tryd.lays159.z70
  v70 := Tryd.lays159.v70
  t72 := Tryd.lays159.t72
  a72 := Tryd.lays159.a72
  z72 := Tryd.lays159.z72
  v72 := Tryd.lays159.v72
  t75 := Tryd.lays159.t75
  a75 := Tryd.lays159.a75
  z75 := Tryd.lays159.z75
  v75 := Tryd.lays159.v75
  t164 := Tryd.lays159.t164
  a164 := Tryd.lays159.a164
  z164 := Tryd.lays159.z164
  v164 := Tryd.lays159.v164 }
open Go.RowKit in
/-- (*strings.Builder).WriteByte, laid over the table of strings.ToLower. -/
theorem Tryd.Builder_WriteByte_k (B b : Nat) (bs : List Value) (c : Int) (w : World) (h : Lib.IsBuilderF 67 5 B b bs w) (hlen : bs.length + 1 ≤ 140737488355328) (hBw : B ≤ w.heap.size) :
    Calls Tryd.prog 37 #[.pointer (some ⟨b, 0, none⟩), .int .u8 c] w fun e w' => e = .returned .nilIface ∧ (Lib.BuilderAtF 67 5 B b (.pointer (some ⟨b, 0, none⟩)) (bs ++ [.int .u8 c]) w' ∧ Below B w w' ∧ Lib.OthersKept 5 (some b) w w') := Any.Builder_WriteByte_k Tryd.lays167 Tryd.Builder_Extra_159 B b bs c w h hlen hBw
end Go.Proofs
