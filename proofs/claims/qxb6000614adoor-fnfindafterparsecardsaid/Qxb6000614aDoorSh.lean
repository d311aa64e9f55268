/-
  DERIVED: THE SHELF's CONTRACTS AT THIS DUMP, IN PLAIN WORDS (tools/lay-plain.mjs out of 'Qxb6000614aDoorSh.lean', which tools/lay-shelf.mjs wrote): THE SAME DECLARATIONS UNDER THE SAME NAMES: 'import', 'namespace', 'open', 'def', 'theorem' AND NOTHING ELSE: no command of the shelf's: FOR A HAND-IN. Each laying: the table of numbers ('.._ren') and one theorem, a field a fact of the dump's own or the kernel's comparison; each contract: ONE APPLICATION.
-/
import Derived.Shelf.Strings.Builder1
import Derived.Shelf.Strings.OnBuilder
import Derived.Shelf.Small.Strs
import Derived.Shelf.Strings.BuilderK
import Derived.Shelf.Strings.Search1
import Derived.Test.Qxb6000614aDoorProg
namespace Go.Proofs
open Go.Shelf
def Tryd.lays169_ren : Go.Shelf.Ren := ⟨fun | 169 => 41 | n => n, fun | 70 => 58 | 9 => 9 | 0 => 0 | 72 => 60 | 37 => 28 | 127 => 69 | 3 => 3 | 5 => 5 | n => n, fun | n => n⟩
theorem Tryd.lays169 : Go.Proofs.Lays.n169 Tryd.prog Tryd.lays169_ren := {
  mixed := by kernel_rfl
  f169 := Tryd.func41.trans (congrArg some (by kernel_rfl))
  t0 := Tryd.underlying0
  a0 := Tryd.isAgg0
  z0 := Tryd.sizeOf0
  v0 := Tryd.zeroValue0
  t3 := Tryd.underlying3
  a3 := Tryd.isAgg3
  z3 := Tryd.sizeOf3
  v3 := Tryd.zeroValue3
  t9 := Tryd.underlying9
  a9 := Tryd.isAgg9
  z9 := Tryd.sizeOf9
  v9 := Tryd.zeroValue9
  t37 := Tryd.underlying28
  a37 := Tryd.isAgg28
  z37 := Tryd.sizeOf28
  v37 := Tryd.zeroValue28
  t70 := Tryd.underlying58
  a70 := Tryd.isAgg58
  z70 := Tryd.sizeOf58
  v70 := Tryd.zeroValue58
  t72 := Tryd.underlying60
  a72 := Tryd.isAgg60
  z72 := Tryd.sizeOf60
  v72 := Tryd.zeroValue60
  t127 := Tryd.underlying69
  a127 := Tryd.isAgg69
  z127 := Tryd.sizeOf69
  v127 := Tryd.zeroValue69 }
theorem Tryd.Builder_Extra_169 : Builder.Extra Tryd.prog Tryd.lays169_ren := {
  sizeBuilder := by kernel_rfl
  liesBuilder := by kernel_rfl
  t5 := Tryd.underlying5
  a5 := Tryd.isAgg5
  z5 := Tryd.sizeOf5
  v5 := Tryd.zeroValue5
  infoByte := by kernel_rfl
  cellsByte := by kernel_rfl
  sizeByte := by kernel_rfl
  neB5 := by decide }
def Tryd.lays159_ren : Go.Shelf.Ren := ⟨fun | 159 => 33 | 165 => 38 | 166 => 39 | 167 => 40 | 169 => 41 | 230 => 42 | 204 => 43 | 240 => 45 | 241 => 46 | 197 => 47 | 118 => 48 | 168 => 49 | 270 => 50 | 262 => 51 | 276 => 53 | 277 => 54 | 260 => 55 | 242 => 56 | 313 => 57 | 278 => 58 | 274 => 59 | 275 => 60 | n => n, fun | 9 => 9 | 4 => 4 | 3 => 3 | 5 => 5 | 72 => 60 | 0 => 0 | 76 => 64 | 75 => 63 | 107 => 68 | 70 => 58 | 20 => 20 | 37 => 28 | 127 => 69 | 21 => 21 | 105 => 70 | 164 => 76 | 162 => 82 | 203 => 80 | 119 => 83 | 46 => 84 | 139 => 87 | 138 => 86 | 51 => 88 | 160 => 89 | 208 => 95 | 206 => 93 | 80 => 54 | n => n, fun | 13 => 0 | 3 => 2 | 4 => 3 | n => n⟩
theorem Tryd.lays159 : Go.Proofs.Lays.n159 Tryd.prog Tryd.lays159_ren := {
  mixed := by kernel_rfl
  f118 := Tryd.func48.trans (congrArg some (by kernel_rfl))
  f159 := Tryd.func33.trans (congrArg some (by kernel_rfl))
  f165 := Tryd.func38.trans (congrArg some (by kernel_rfl))
  f166 := Tryd.func39.trans (congrArg some (by kernel_rfl))
  f167 := Tryd.func40.trans (congrArg some (by kernel_rfl))
  f168 := Tryd.func49.trans (congrArg some (by kernel_rfl))
  f169 := Tryd.func41.trans (congrArg some (by kernel_rfl))
  f197 := Tryd.func47.trans (congrArg some (by kernel_rfl))
  f204 := Tryd.func43.trans (congrArg some (by kernel_rfl))
  f230 := Tryd.func42.trans (congrArg some (by kernel_rfl))
  f240 := Tryd.func45.trans (congrArg some (by kernel_rfl))
  f241 := Tryd.func46.trans (congrArg some (by kernel_rfl))
  f242 := Tryd.func56.trans (congrArg some (by kernel_rfl))
  f260 := Tryd.func55.trans (congrArg some (by kernel_rfl))
  f262 := Tryd.func51.trans (congrArg some (by kernel_rfl))
  f270 := Tryd.func50.trans (congrArg some (by kernel_rfl))
  f274 := Tryd.func59.trans (congrArg some (by kernel_rfl))
  f275 := Tryd.func60.trans (congrArg some (by kernel_rfl))
  f276 := Tryd.func53.trans (congrArg some (by kernel_rfl))
  f277 := Tryd.func54.trans (congrArg some (by kernel_rfl))
  f278 := Tryd.func58.trans (congrArg some (by kernel_rfl))
  f313 := Tryd.func57.trans (congrArg some (by kernel_rfl))
  t0 := Tryd.underlying0
  a0 := Tryd.isAgg0
  z0 := Tryd.sizeOf0
  v0 := Tryd.zeroValue0
  t3 := Tryd.underlying3
  a3 := Tryd.isAgg3
  z3 := Tryd.sizeOf3
  v3 := Tryd.zeroValue3
  t4 := Tryd.underlying4
  a4 := Tryd.isAgg4
  z4 := Tryd.sizeOf4
  v4 := Tryd.zeroValue4
  t5 := Tryd.underlying5
  a5 := Tryd.isAgg5
  z5 := Tryd.sizeOf5
  v5 := Tryd.zeroValue5
  t9 := Tryd.underlying9
  a9 := Tryd.isAgg9
  z9 := Tryd.sizeOf9
  v9 := Tryd.zeroValue9
  t20 := Tryd.underlying20
  a20 := Tryd.isAgg20
  z20 := Tryd.sizeOf20
  v20 := Tryd.zeroValue20
  t21 := Tryd.underlying21
  a21 := Tryd.isAgg21
  z21 := Tryd.sizeOf21
  v21 := Tryd.zeroValue21
  t37 := Tryd.underlying28
  a37 := Tryd.isAgg28
  z37 := Tryd.sizeOf28
  v37 := Tryd.zeroValue28
  t46 := Tryd.underlying84
  a46 := Tryd.isAgg84
  z46 := Tryd.sizeOf84
  v46 := Tryd.zeroValue84
  t51 := Tryd.underlying88
  a51 := Tryd.isAgg88
  z51 := Tryd.sizeOf88
  v51 := Tryd.zeroValue88
  t70 := Tryd.underlying58
  a70 := Tryd.isAgg58
  z70 := Tryd.sizeOf58
  v70 := Tryd.zeroValue58
  t72 := Tryd.underlying60
  a72 := Tryd.isAgg60
  z72 := Tryd.sizeOf60
  v72 := Tryd.zeroValue60
  t75 := Tryd.underlying63
  a75 := Tryd.isAgg63
  z75 := Tryd.sizeOf63
  v75 := Tryd.zeroValue63
  t76 := Tryd.underlying64
  a76 := Tryd.isAgg64
  z76 := Tryd.sizeOf64
  v76 := Tryd.zeroValue64
  t105 := Tryd.underlying70
  a105 := Tryd.isAgg70
  z105 := Tryd.sizeOf70
  v105 := Tryd.zeroValue70
  t107 := Tryd.underlying68
  a107 := Tryd.isAgg68
  z107 := Tryd.sizeOf68
  v107 := Tryd.zeroValue68
  t119 := Tryd.underlying83
  a119 := Tryd.isAgg83
  z119 := Tryd.sizeOf83
  t127 := Tryd.underlying69
  a127 := Tryd.isAgg69
  z127 := Tryd.sizeOf69
  v127 := Tryd.zeroValue69
  t138 := Tryd.underlying86
  a138 := Tryd.isAgg86
  z138 := Tryd.sizeOf86
  v138 := Tryd.zeroValue86
  t139 := Tryd.underlying87
  a139 := Tryd.isAgg87
  z139 := Tryd.sizeOf87
  v139 := Tryd.zeroValue87
  t160 := Tryd.underlying89
  a160 := Tryd.isAgg89
  z160 := Tryd.sizeOf89
  v160 := Tryd.zeroValue89
  t162 := Tryd.underlying82
  a162 := Tryd.isAgg82
  z162 := Tryd.sizeOf82
  v162 := Tryd.zeroValue82
  t164 := Tryd.underlying76
  a164 := Tryd.isAgg76
  z164 := Tryd.sizeOf76
  v164 := Tryd.zeroValue76
  t203 := Tryd.underlying80
  a203 := Tryd.isAgg80
  z203 := Tryd.sizeOf80
  v203 := Tryd.zeroValue80
  t206 := Tryd.underlying93
  a206 := Tryd.isAgg93
  z206 := Tryd.sizeOf93
  v206 := Tryd.zeroValue93
  t208 := Tryd.underlying95
  a208 := Tryd.isAgg95
  z208 := Tryd.sizeOf95
  v208 := Tryd.zeroValue95
  g3 := by kernel_rfl
  g4 := by kernel_rfl
  g13 := by kernel_rfl }
theorem Tryd.Builder_Extra_159 : Builder.Extra Tryd.prog Tryd.lays159_ren := {
  sizeBuilder := by kernel_rfl
  liesBuilder := by kernel_rfl
  t5 := Tryd.underlying5
  a5 := Tryd.isAgg5
  z5 := Tryd.sizeOf5
  v5 := Tryd.zeroValue5
  infoByte := by kernel_rfl
  cellsByte := by kernel_rfl
  sizeByte := by kernel_rfl
  neB5 := by decide }
open Go.RowKit in
/-- strings.ToLower: "ToLower returns s with all Unicode letters mapped to their lower case.": ON ASCII TEXT OF AT MOST 2^47 BYTES. Below the heap's end the world is as it was: where a letter turns, the call makes a builder and its buffer. (LAID: no walk: one application.) -/
theorem Tryd.strings_ToLower_ascii (s : ByteArray) (w : World) (hs : s.size ≤ 140737488355328) (hascii : ∀ (j : Nat) (b : UInt8), s.data.toList[j]? = some b → b.toNat < 128) :
    Calls Tryd.prog 33 #[.string s] w fun e w' => e = .returned (.string ⟨(Lib.toLowerA s.data.toList).toArray⟩) ∧ Below w.heap.size w w' := Any.strings_ToLower_ascii Tryd.lays159 Tryd.Builder_Extra_159 s w hs hascii
def Tryd.lays137_ren : Go.Shelf.Ren := ⟨fun | 137 => 36 | 217 => 44 | 266 => 52 | n => n, fun | 9 => 9 | 5 => 5 | 3 => 3 | n => n, fun | n => n⟩
theorem Tryd.lays137 : Go.Proofs.Lays.n137 Tryd.prog Tryd.lays137_ren := {
  mixed := by kernel_rfl
  f137 := Tryd.func36.trans (congrArg some (by kernel_rfl))
  f217 := Tryd.func44.trans (congrArg some (by kernel_rfl))
  f266 := Tryd.func52.trans (congrArg some (by kernel_rfl))
  t3 := Tryd.underlying3
  a3 := Tryd.isAgg3
  z3 := Tryd.sizeOf3
  v3 := Tryd.zeroValue3
  t5 := Tryd.underlying5
  a5 := Tryd.isAgg5
  z5 := Tryd.sizeOf5
  v5 := Tryd.zeroValue5
  t9 := Tryd.underlying9
  a9 := Tryd.isAgg9
  z9 := Tryd.sizeOf9
  v9 := Tryd.zeroValue9 }
open Go.RowKit in
/-- strings.IndexByte: "IndexByte returns the index of the first instance of c in s, or -1 if c is not present in s.": IT RETURNS 'Lib.indexByte s c'; the world is as it was. (LAID: no walk: one application.) -/
theorem Tryd.strings_IndexByte (s : ByteArray) (c : Int) (w : World) :
    Calls Tryd.prog 36 #[.string s, .int .u8 c] w fun e w' => e = .returned (.int .i64 (Lib.indexByte s.data.toList c.toNat.toUInt8)) ∧ w' = w := Any.strings_IndexByte Tryd.lays137 s c w
open Go.RowKit in
/-- (*strings.Builder).String: "String returns the accumulated string.": WHATEVER THE BUILDER HOLDS; THE FORM '_k': OVER 'Lib.IsBuilderF' (a builder that 'String()' may have read), AND WITH THE FRAME THAT REACHES ABOVE THE BUILDER: 'Lib.OthersKept': every block that is not b and is no row of uint8's stands as it stood: the iterator of a range among them. (LAID: no walk: one application.) -/
theorem Tryd.Builder_String_any_k (B b : Nat) (l : List UInt8) (w : World) (h : Lib.IsBuilderF 60 5 B b (Lib.byteCells l) w) (hBw : B ≤ w.heap.size) :
    Calls Tryd.prog 41 #[.pointer (some ⟨b, 0, none⟩)] w fun e w' => e = .returned (.string ⟨l.toArray⟩) ∧ (Lib.IsBuilderF 60 5 B b (Lib.byteCells l) w' ∧ Below B w w' ∧ Lib.OthersKept 5 (some b) w w') := Any.Builder_String_any_k Tryd.lays169 Tryd.Builder_Extra_169 B b l w h hBw
theorem Tryd.lays167 : Go.Proofs.Lays.n167 Tryd.prog Tryd.lays159_ren := {
  mixed := Tryd.lays159.mixed
  f167 := Tryd.lays159.f167
  f240 := Tryd.lays159.f240
  f276 := Tryd.lays159.f276
  t0 := Tryd.lays159.t0
  a0 := Tryd.lays159.a0
  z0 := Tryd.lays159.z0
  v0 := Tryd.lays159.v0
  t4 := Tryd.lays159.t4
  a4 := Tryd.lays159.a4
  z4 := Tryd.lays159.z4
  v4 := Tryd.lays159.v4
  t5 := Tryd.lays159.t5
  a5 := Tryd.lays159.a5
  z5 := Tryd.lays159.z5
  v5 := Tryd.lays159.v5
  t9 := Tryd.lays159.t9
  a9 := Tryd.lays159.a9
  z9 := Tryd.lays159.z9
  v9 := Tryd.lays159.v9
  t20 := Tryd.lays159.t20
  a20 := Tryd.lays159.a20
  z20 := Tryd.lays159.z20
  v20 := Tryd.lays159.v20
  t37 := Tryd.lays159.t37
  a37 := Tryd.lays159.a37
  z37 := Tryd.lays159.z37
  v37 := Tryd.lays159.v37
  t70 := Tryd.lays159.t70
  a70 := Tryd.lays159.a70
  z70 := Tryd.lays159.z70
  v70 := Tryd.lays159.v70
  t72 := Tryd.lays159.t72
  a72 := Tryd.lays159.a72
  z72 := Tryd.lays159.z72
  v72 := Tryd.lays159.v72
  t75 := Tryd.lays159.t75
  a75 := Tryd.lays159.a75
  z75 := Tryd.lays159.z75
  v75 := Tryd.lays159.v75
  t164 := Tryd.lays159.t164
  a164 := Tryd.lays159.a164
  z164 := Tryd.lays159.z164
  v164 := Tryd.lays159.v164 }
open Go.RowKit in
/-- (*strings.Builder).WriteByte, laid over the table of strings.ToLower. -/
theorem Tryd.Builder_WriteByte_k (B b : Nat) (bs : List Value) (c : Int) (w : World) (h : Lib.IsBuilderF 60 5 B b bs w) (hlen : bs.length + 1 ≤ 140737488355328) (hBw : B ≤ w.heap.size) :
    Calls Tryd.prog 40 #[.pointer (some ⟨b, 0, none⟩), .int .u8 c] w fun e w' => e = .returned .nilIface ∧ (Lib.BuilderAtF 60 5 B b (.pointer (some ⟨b, 0, none⟩)) (bs ++ [.int .u8 c]) w' ∧ Below B w w' ∧ Lib.OthersKept 5 (some b) w w') := Any.Builder_WriteByte_k Tryd.lays167 Tryd.Builder_Extra_159 B b bs c w h hlen hBw
end Go.Proofs
