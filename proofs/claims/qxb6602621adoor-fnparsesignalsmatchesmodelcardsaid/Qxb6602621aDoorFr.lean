/-
  THE FRAME of seat b6602621aD: from the listed variables to what the walks ask; a slice of bytes that came in.
-/
import Derived.Test.Qxb6602621aDoorRows
import Derived.Test.Qxb6602621aDoorW10
import Derived.ProofKit
import Derived.OpenShut
import Derived.LaidMore
import Derived.Lay
import Derived.PinnedBridge
import Derived.Lib.LaidU8T
namespace Go.Proofs.Qxb6602621aDoor
open Go.ChangeShapes Go.WideShapes Go.ChangeAt Go.RowKit Go.Lib Go.Shelf

theorem own : ownKnob Tryd.prog.godebug = none := by kernel_rfl
theorem laidOut : laidOutB Tryd.prog = true := by kernel_rfl
theorem cells5 : Tryd.prog.cellsOf 5 = 1 := by kernel_rfl

/-! ### the tables -/
def u8ren : Ren := ⟨fun n => n, fun | 119 => 42 | 138 => 80 | 139 => 81 | n => n, fun | 3 => 4 | 4 => 5 | n => n⟩
theorem u8types : U8Types Tryd.prog u8ren := ⟨by kernel_rfl, by kernel_rfl, by kernel_rfl, by kernel_rfl⟩
theorem u8extra : U8Extra Tryd.prog u8ren := ⟨by kernel_rfl, by kernel_rfl, by kernel_rfl, by kernel_rfl, by kernel_rfl, by kernel_rfl, by kernel_rfl⟩
theorem whextra : WhiteExtra Tryd.prog Tryd.lays199_ren := ⟨by kernel_rfl, by kernel_rfl, by kernel_rfl, by kernel_rfl, by kernel_rfl, by kernel_rfl, by kernel_rfl, by kernel_rfl⟩
theorem dataFirst : Rows.laid_unicode_utf8_first = firstData := Pinned.utf8First_eq
theorem dataAccept : (Rows.laid_unicode_utf8_acceptRanges : DataW Unit) = acceptData := by kernel_rfl
theorem dataWhite : (Rows.laid_unicode_White_Space : DataW Unit) = whiteData := by kernel_rfl
theorem dataAscii : (Rows.laid_bytes_asciiSpace : DataW Unit) = tabData .u8 asciiSpaceTab := by kernel_rfl

theorem iface_cell {W : World} {n : String} {nm : String} {d : DataW Unit} {g : Nat} (hg : Tryd.prog.globalNamed n = some g) (ht : (Tryd.prog.globals[g]?).map (·.type) = some 26) (h : VarReads Tryd.prog W n (.iface nm d)) :
    ∃ ev, W.cell? ⟨g, 0, none⟩ = some ev ∧ (ev = .nilIface ∨ ∃ te pe, ev = .iface te pe) := by
  obtain ⟨g', t, cs, fuel, p, hg', hty, hvar, hd⟩ := h
  obtain rfl := Option.some.inj (hg.symm.trans hg')
  obtain rfl := Option.some.inj (ht.symm.trans hty)
  obtain ⟨l⟩ := cs
  obtain ⟨f1, u, v, rfl, _, _⟩ := iface_of_trod Tryd.underlying26 hd
  have := World.var?_cell hg hvar 0
  exact ⟨.iface u v, by simpa using this, .inr ⟨u, v, rfl⟩⟩

/-- What the listed variables give the walks. -/
theorem tabs_of {W : World} (h : laidMetH Tryd.prog Rows.fnParseSignalsReadsWhatIsWrittenRow.laid W) : Tabs W ∧ Sents W := by
  rw [MakeChecks.laidMetH_plain _ _ _ (by kernel_rfl)] at h
  have hA : Utf8Tabs 4 5 W := utf8Tabs_of_readsT u8types u8extra (dataFirst ▸ laidMet.reads h (by simp [Rows.fnParseSignalsReadsWhatIsWrittenRow])) (dataAccept ▸ laidMet.reads h (by simp [Rows.fnParseSignalsReadsWhatIsWrittenRow]))
  have hW : WhiteTab 1 W := whiteTab_of_reads Tryd.lays199 whextra (dataWhite ▸ laidMet.reads h (by simp [Rows.fnParseSignalsReadsWhatIsWrittenRow]))
  have hB : VarReads Tryd.prog W "bytes.asciiSpace" (tabData .u8 asciiSpaceTab) := dataAscii ▸ laidMet.reads h (by simp [Rows.fnParseSignalsReadsWhatIsWrittenRow])
  have hS : VarReads Tryd.prog W "strconv.ErrSyntax" Rows.laid_strconv_ErrSyntax := laidMet.reads h (by simp [Rows.fnParseSignalsReadsWhatIsWrittenRow])
  have hR : VarReads Tryd.prog W "strconv.ErrRange" Rows.laid_strconv_ErrRange := laidMet.reads h (by simp [Rows.fnParseSignalsReadsWhatIsWrittenRow])
  refine ⟨⟨fun q hq => ?_, hA, hW⟩, ⟨iface_cell (by kernel_rfl) (by kernel_rfl) hS, iface_cell (by kernel_rfl) (by kernel_rfl) hR⟩⟩
  obtain ⟨g, t, cs, fuel, p, hg, hty, hvar, hd⟩ := hB
  obtain rfl := Option.some.inj ((show Tryd.prog.globalNamed "bytes.asciiSpace" = some 0 by kernel_rfl).symm.trans hg)
  obtain rfl := Option.some.inj ((show (Tryd.prog.globals[0]?).map (·.type) = some 42 by kernel_rfl).symm.trans hty)
  have hcs := cells_of_tab Tryd.underlying42 Tryd.underlying5 cells5 (by kernel_rfl) hd
  have hT : TabIs Tryd.prog W "bytes.asciiSpace" .u8 asciiSpaceTab := by
    unfold TabIs
    rw [hvar, ← hcs]
  rw [hT.cell hg q (by rw [asciiSpaceTab_length]; exact hq), asciiSpaceTab_at q hq]

/-! ### a slice of bytes that came in -/
def toB (z : Int) : UInt8 := UInt8.ofNat z.toNat
theorem toB_nat {z : Int} (h : (Lit.int .u8 z).wf = true) : ((toB z).toNat : Int) = z := by
  have h1 : IntKind.u8.min = 0 := rfl
  have h2 : IntKind.u8.max = 255 := rfl
  simp only [Lit.wf, Bool.and_eq_true, decide_eq_true_eq] at h
  unfold toB
  rw [UInt8.toNat_ofNat']
  omega
theorem opened {H : Type} {enc : TypeId × Value → H} {W : World} {a0 : Option Addr} {len cap : Nat} {d0 : DataW H} {p : List MemPlace}
    (h0 : DataW.Trod enc Tryd.prog W 0 (fun _ => true) true 22 (.slice a0 len cap) d0 p) :
    ∃ l : List UInt8, l.length = len ∧ len ≤ cap ∧ View W a0 l ∧ (a0 = none → l = [] ∧ cap = 0) ∧ cap ≤ maxLen := by
  obtain ⟨fuel, hf⟩ := h0
  rcases open_ints Tryd.underlying22 Tryd.underlying5 cells5 hf with ⟨hcs, _⟩ | ⟨a, len', cap', zs, hcs, _, hl, hm, hz, _, hcell, hwz⟩
  · simp [Value.cells] at hcs
    obtain ⟨rfl, rfl, rfl⟩ := hcs
    exact ⟨[], rfl, Nat.le_refl _, fun h => absurd h (by simp), fun _ => ⟨rfl, rfl⟩, Nat.zero_le _⟩
  · simp [Value.cells] at hcs
    obtain ⟨rfl, rfl, rfl⟩ := hcs
    simp only [if_true] at hz
    refine ⟨(zs.take len).map toB, by simp; omega, hl, ?_, (fun h => by cases h), hm⟩
    intro hp
    simp at hp
    obtain ⟨b, off, rfl, hc⟩ := ints_at hcell (by omega)
    refine ⟨b, off, rfl, fun j hj => ?_⟩
    simp at hj
    rw [hc j (by omega)]
    have hjz : j < zs.length := by omega
    have e1 : zs.getD j 0 = zs[j] := by simp [List.getD, hjz]
    have hjl : j < len := by omega
    have e2 : ((zs.take len).map toB).getD j 0 = toB zs[j] := by simp [List.getD, hjl, hjz]
    rw [e1, e2, toB_nat (hwz _ (List.getElem_mem hjz))]
end Go.Proofs.Qxb6602621aDoor
