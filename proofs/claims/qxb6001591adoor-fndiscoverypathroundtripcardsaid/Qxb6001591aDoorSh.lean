/-
  DERIVED: THE SHELF's CONTRACTS AT THIS DUMP, IN PLAIN WORDS (tools/lay-plain.mjs out of 'Qxb6001591aDoorSh.lean', which tools/lay-shelf.mjs wrote): THE SAME DECLARATIONS UNDER THE SAME NAMES: 'import', 'namespace', 'open', 'def', 'theorem' AND NOTHING ELSE: no command of the shelf's: FOR A HAND-IN. Each laying: the table of numbers ('.._ren') and one theorem, a field a fact of the dump's own or the kernel's comparison; each contract: ONE APPLICATION.
-/
import Derived.Shelf.Strings.Trim
import Derived.Shelf.Strings.Split
import Derived.Shelf.Strings.Search1
import Derived.Shelf.Slices.Turned
import Derived.Test.Qxb6001591aDoorProg
namespace Go.Proofs
open Go.Shelf
def Tryd.lays160_ren : Go.Shelf.Ren := ⟨fun | 160 => 19 | 232 => 23 | 231 => 22 | 227 => 24 | 234 => 26 | 233 => 25 | 236 => 28 | 235 => 27 | 228 => 33 | 271 => 36 | 151 => 35 | 197 => 34 | 120 => 42 | 152 => 41 | 260 => 40 | 137 => 47 | 119 => 48 | 224 => 45 | 225 => 44 | 217 => 43 | 266 => 49 | n => n, fun | 9 => 9 | 4 => 4 | 3 => 3 | 5 => 5 | 117 => 50 | 116 => 49 | 0 => 0 | 124 => 53 | 21 => 21 | 105 => 58 | 46 => 65 | 119 => 66 | 139 => 69 | 138 => 68 | n => n, fun | 3 => 1 | 4 => 2 | n => n⟩
theorem Tryd.lays160 : Go.Proofs.Lays.n160 Tryd.prog Tryd.lays160_ren := {
  mixed := by kernel_rfl
  f119 := Tryd.func48.trans (congrArg some (by kernel_rfl))
  f120 := Tryd.func42.trans (congrArg some (by kernel_rfl))
  f137 := Tryd.func47.trans (congrArg some (by kernel_rfl))
  f151 := Tryd.func35.trans (congrArg some (by kernel_rfl))
  f152 := Tryd.func41.trans (congrArg some (by kernel_rfl))
  f160 := Tryd.func19.trans (congrArg some (by kernel_rfl))
  f197 := Tryd.func34.trans (congrArg some (by kernel_rfl))
  f217 := Tryd.func43.trans (congrArg some (by kernel_rfl))
  f224 := Tryd.func45.trans (congrArg some (by kernel_rfl))
  f225 := Tryd.func44.trans (congrArg some (by kernel_rfl))
  f227 := Tryd.func24.trans (congrArg some (by kernel_rfl))
  f228 := Tryd.func33.trans (congrArg some (by kernel_rfl))
  f231 := Tryd.func22.trans (congrArg some (by kernel_rfl))
  f232 := Tryd.func23.trans (congrArg some (by kernel_rfl))
  f233 := Tryd.func25.trans (congrArg some (by kernel_rfl))
  f234 := Tryd.func26.trans (congrArg some (by kernel_rfl))
  f235 := Tryd.func27.trans (congrArg some (by kernel_rfl))
  f236 := Tryd.func28.trans (congrArg some (by kernel_rfl))
  f260 := Tryd.func40.trans (congrArg some (by kernel_rfl))
  f266 := Tryd.func49.trans (congrArg some (by kernel_rfl))
  f271 := Tryd.func36.trans (congrArg some (by kernel_rfl))
  t0 := Tryd.underlying0
  a0 := Tryd.isAgg0
  z0 := Tryd.sizeOf0
  v0 := Tryd.zeroValue0
  t3 := Tryd.underlying3
  a3 := Tryd.isAgg3
  z3 := Tryd.sizeOf3
  v3 := Tryd.zeroValue3
  t4 := Tryd.underlying4
  a4 := Tryd.isAgg4
  z4 := Tryd.sizeOf4
  v4 := Tryd.zeroValue4
  t5 := Tryd.underlying5
  a5 := Tryd.isAgg5
  z5 := Tryd.sizeOf5
  v5 := Tryd.zeroValue5
  t9 := Tryd.underlying9
  a9 := Tryd.isAgg9
  z9 := Tryd.sizeOf9
  v9 := Tryd.zeroValue9
  t21 := Tryd.underlying21
  a21 := Tryd.isAgg21
  z21 := Tryd.sizeOf21
  v21 := Tryd.zeroValue21
  t46 := Tryd.underlying65
  a46 := Tryd.isAgg65
  z46 := Tryd.sizeOf65
  v46 := Tryd.zeroValue65
  t105 := Tryd.underlying58
  a105 := Tryd.isAgg58
  z105 := Tryd.sizeOf58
  v105 := Tryd.zeroValue58
  t116 := Tryd.underlying49
  a116 := Tryd.isAgg49
  z116 := Tryd.sizeOf49
  t117 := Tryd.underlying50
  a117 := Tryd.isAgg50
  z117 := Tryd.sizeOf50
  v117 := Tryd.zeroValue50
  t119 := Tryd.underlying66
  a119 := Tryd.isAgg66
  z119 := Tryd.sizeOf66
  t124 := Tryd.underlying53
  a124 := Tryd.isAgg53
  z124 := Tryd.sizeOf53
  v124 := Tryd.zeroValue53
  t138 := Tryd.underlying68
  a138 := Tryd.isAgg68
  z138 := Tryd.sizeOf68
  v138 := Tryd.zeroValue68
  t139 := Tryd.underlying69
  a139 := Tryd.isAgg69
  z139 := Tryd.sizeOf69
  v139 := Tryd.zeroValue69
  g3 := by kernel_rfl
  g4 := by kernel_rfl }
open Go.RowKit in
/-- strings.Trim: "Trim returns a slice of the string s with all leading and trailing Unicode code points contained in cutset removed.": AT A cutset OF ONE ASCII BYTE. THE WORLD BEHIND IT: as it was, or (where s is not empty) with ONE DRAW MORE off the tape: the statement 'return trimLeftByte(trimRightByte(s, c), c)' draws its order of evaluation. (LAID: no walk: one application.) -/
theorem Tryd.strings_Trim_one (s : ByteArray) (c : UInt8) (hc : c.toNat < 128) (w : World) (hs : s.size ≤ 9223372036854775807) :
    Calls Tryd.prog 19 #[.string s, .string ⟨#[c]⟩] w fun e w' => e = .returned (.string ⟨(Lib.trimB s.data.toList c).toArray⟩) ∧ (w' = w ∨ w' = w.drew) := Any.strings_Trim_one Tryd.lays160 s c hc w hs
def Tryd.lays146_ren : Go.Shelf.Ren := ⟨fun | 146 => 18 | 221 => 21 | 268 => 30 | 138 => 31 | 143 => 32 | 195 => 37 | 197 => 34 | 218 => 38 | 219 => 39 | 260 => 40 | 217 => 43 | 225 => 44 | 224 => 45 | 267 => 46 | 266 => 49 | 314 => 50 | n => n, fun | 9 => 9 | 31 => 40 | 3 => 3 | 4 => 4 | 0 => 0 | 105 => 58 | 21 => 21 | 5 => 5 | 46 => 65 | 119 => 66 | 139 => 69 | 138 => 68 | 146 => 72 | 51 => 71 | n => n, fun | 1 => 0 | 3 => 1 | 4 => 2 | n => n⟩
theorem Tryd.lays146 : Go.Proofs.Lays.n146 Tryd.prog Tryd.lays146_ren := {
  mixed := by kernel_rfl
  f138 := Tryd.func31.trans (congrArg some (by kernel_rfl))
  f143 := Tryd.func32.trans (congrArg some (by kernel_rfl))
  f146 := Tryd.func18.trans (congrArg some (by kernel_rfl))
  f195 := Tryd.func37.trans (congrArg some (by kernel_rfl))
  f197 := Tryd.func34.trans (congrArg some (by kernel_rfl))
  f217 := Tryd.func43.trans (congrArg some (by kernel_rfl))
  f218 := Tryd.func38.trans (congrArg some (by kernel_rfl))
  f219 := Tryd.func39.trans (congrArg some (by kernel_rfl))
  f221 := Tryd.func21.trans (congrArg some (by kernel_rfl))
  f224 := Tryd.func45.trans (congrArg some (by kernel_rfl))
  f225 := Tryd.func44.trans (congrArg some (by kernel_rfl))
  f260 := Tryd.func40.trans (congrArg some (by kernel_rfl))
  f266 := Tryd.func49.trans (congrArg some (by kernel_rfl))
  f267 := Tryd.func46.trans (congrArg some (by kernel_rfl))
  f268 := Tryd.func30.trans (congrArg some (by kernel_rfl))
  f314 := Tryd.func50.trans (congrArg some (by kernel_rfl))
  t0 := Tryd.underlying0
  a0 := Tryd.isAgg0
  z0 := Tryd.sizeOf0
  v0 := Tryd.zeroValue0
  t3 := Tryd.underlying3
  a3 := Tryd.isAgg3
  z3 := Tryd.sizeOf3
  v3 := Tryd.zeroValue3
  t4 := Tryd.underlying4
  a4 := Tryd.isAgg4
  z4 := Tryd.sizeOf4
  v4 := Tryd.zeroValue4
  t5 := Tryd.underlying5
  a5 := Tryd.isAgg5
  z5 := Tryd.sizeOf5
  v5 := Tryd.zeroValue5
  t9 := Tryd.underlying9
  a9 := Tryd.isAgg9
  z9 := Tryd.sizeOf9
  v9 := Tryd.zeroValue9
  t21 := Tryd.underlying21
  a21 := Tryd.isAgg21
  z21 := Tryd.sizeOf21
  v21 := Tryd.zeroValue21
  t31 := Tryd.underlying40
  a31 := Tryd.isAgg40
  z31 := Tryd.sizeOf40
  v31 := Tryd.zeroValue40
  t46 := Tryd.underlying65
  a46 := Tryd.isAgg65
  z46 := Tryd.sizeOf65
  v46 := Tryd.zeroValue65
  t51 := Tryd.underlying71
  a51 := Tryd.isAgg71
  z51 := Tryd.sizeOf71
  v51 := Tryd.zeroValue71
  t105 := Tryd.underlying58
  a105 := Tryd.isAgg58
  z105 := Tryd.sizeOf58
  v105 := Tryd.zeroValue58
  t119 := Tryd.underlying66
  a119 := Tryd.isAgg66
  z119 := Tryd.sizeOf66
  t138 := Tryd.underlying68
  a138 := Tryd.isAgg68
  z138 := Tryd.sizeOf68
  v138 := Tryd.zeroValue68
  t139 := Tryd.underlying69
  a139 := Tryd.isAgg69
  z139 := Tryd.sizeOf69
  v139 := Tryd.zeroValue69
  t146 := Tryd.underlying72
  a146 := Tryd.isAgg72
  z146 := Tryd.sizeOf72
  v146 := Tryd.zeroValue72
  g1 := by kernel_rfl
  g3 := by kernel_rfl
  g4 := by kernel_rfl }
open Go.RowKit Go.Lib in
/-- strings.Split. (LAID: no walk: one application.) -/
theorem Tryd.strings_Split (s sep : ByteArray) (m : Int) (w : World) (hs : s.size < 4294967281) (hm : w.cell? ⟨0, 0, none⟩ = some (.int .i64 m)) (h1 : 1 ≤ sep.size) :
    Calls Tryd.prog 18 #[.string s, .string sep] w fun e w' =>
      e = .returned (.slice (some ⟨w.heap.size, 0, none⟩) (Lib.countB s sep + 1) (Lib.countB s sep + 1)) ∧ w' = w.alloc (.cells ((Lib.splitB sep 0 (Lib.countB s sep) s).map Value.string).toArray 9) := Any.strings_Split Tryd.lays146 (by kernel_rfl) s sep m w hs hm h1
def Tryd.lays110_ren : Go.Shelf.Ren := ⟨fun | 110 => 20 | 109 => 29 | n => n, fun | 31 => 40 | 9 => 9 | 4 => 4 | 3 => 3 | 0 => 0 | n => n, fun | n => n⟩
theorem Tryd.lays110 : Go.Proofs.Lays.n110 Tryd.prog Tryd.lays110_ren := {
  mixed := by kernel_rfl
  f109 := Tryd.func29.trans (congrArg some (by kernel_rfl))
  f110 := Tryd.func20.trans (congrArg some (by kernel_rfl))
  t0 := Tryd.underlying0
  a0 := Tryd.isAgg0
  z0 := Tryd.sizeOf0
  v0 := Tryd.zeroValue0
  t3 := Tryd.underlying3
  a3 := Tryd.isAgg3
  z3 := Tryd.sizeOf3
  v3 := Tryd.zeroValue3
  t4 := Tryd.underlying4
  a4 := Tryd.isAgg4
  z4 := Tryd.sizeOf4
  v4 := Tryd.zeroValue4
  t9 := Tryd.underlying9
  a9 := Tryd.isAgg9
  z9 := Tryd.sizeOf9
  v9 := Tryd.zeroValue9
  t31 := Tryd.underlying40
  a31 := Tryd.isAgg40
  z31 := Tryd.sizeOf40
  v31 := Tryd.zeroValue40 }
open Go.Lib in
/-- slices.Contains at []string: "Contains reports whether v is present in s.": IT RETURNS 'Lib.containsS (the elements) v', which is true just where v is among them ('Lib.containsS_iff'); the world is as it was. ITS CALLEE slices.Index IS MET BY ITS OWN CONTRACT OFF THE SHELF (lay that first): no loop is walked here. (LAID: no walk: one application.) -/
theorem Tryd.slices_Contains_string (b off n c : Nat) (zs : List ByteArray) (x : ByteArray) (w : World) (hz : n ≤ zs.length) (hbig : n ≤ 9223372036854775807) (hc : ∀ j, j < zs.length → w.cell? ⟨b, off + j, none⟩ = some (.string (zs.getD j ByteArray.empty))) :
    Calls Tryd.prog 20 #[.slice (some ⟨b, off, none⟩) n c, .string x] w fun e w' => e = .returned (.bool (Lib.containsS (zs.take n) x)) ∧ w' = w := Any.slices_Contains_string Tryd.lays110 b off n c zs x w hz hbig hc
end Go.Proofs
