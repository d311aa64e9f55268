/-
  THE FRAME of seat b6000614aD: a slice of strings that came in.
-/
import Derived.Test.Qxb6000614aDoorRows
import Derived.Test.Qxb6000614aDoorW16
import Derived.ProofKit
import Derived.OpenShut
import Derived.SliceStrings
import Derived.LaidMore
import Derived.Lay
import Derived.PinnedBridge
namespace Go.Proofs.Qxb6000614aDoor
open Go.ChangeShapes Go.WideShapes Go.ChangeAt Go.RowKit Go.Lib

theorem own : ownKnob Tryd.prog.godebug = none := by kernel_rfl
theorem laidOut : laidOutB Tryd.prog = true := by kernel_rfl
theorem cells9 : Tryd.prog.cellsOf 9 = 1 := by kernel_rfl

theorem opened {H : Type} {enc : TypeId × Value → H} {W : World} {a0 : Option Addr} {len cap : Nat} {d0 : DataW H} {p : List MemPlace}
    (h0 : DataW.Trod enc Tryd.prog W 0 (fun _ => true) true 22 (.slice a0 len cap) d0 p) :
    ∃ ss : List ByteArray, ss.length = len ∧ Inp W a0 cap ss := by
  obtain ⟨fuel, hf⟩ := h0
  rcases open_strings Tryd.underlying22 Tryd.underlying9 cells9 hf with ⟨hcs, _⟩ | ⟨a, len', cap', ss, hcs, _, hl, hm, hz, _, hcell, hwz⟩
  · simp [Value.cells] at hcs
    obtain ⟨rfl, rfl, rfl⟩ := hcs
    exact ⟨[], rfl, Nat.zero_le _, fun _ => rfl, fun h => absurd h (by simp)⟩
  · simp [Value.cells] at hcs
    obtain ⟨rfl, rfl, rfl⟩ := hcs
    simp only [if_true] at hz
    refine ⟨ss.take len, by simp; omega, by simp; omega, (fun h => by cases h), ?_⟩
    intro hp
    simp at hp
    obtain ⟨b, off, spot⟩ := a
    have hspot : spot = none := by simpa [Addr.add] using World.cell?_spot (hcell 0 (by omega))
    subst hspot
    refine ⟨b, off, rfl, fun j hj => ?_⟩
    simp at hj
    rw [← Go.WideShapes.add_plain, hcell j (by omega), List.getElem_take, List.getD_eq_getElem?_getD, List.getElem?_eq_getElem (by omega)]
    rfl
end Go.Proofs.Qxb6000614aDoor
