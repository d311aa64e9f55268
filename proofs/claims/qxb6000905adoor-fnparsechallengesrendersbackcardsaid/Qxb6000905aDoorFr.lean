/-
  THE FRAME of seat b6000905aD: a slice of challenges that came in.
-/
import Derived.Test.Qxb6000905aDoorRows
import Derived.Test.Qxb6000905aDoorW20
import Derived.ProofKit
import Derived.OpenShut
import Derived.SliceStrings
import Derived.LaidMore
import Derived.Lay
import Derived.PinnedBridge
import Derived.Deep.Slices
import Derived.Deep.Strs
namespace Go.Proofs.Qxb6000905aDoor
open Go.ChangeShapes Go.WideShapes Go.ChangeAt Go.RowKit Go.Lib

theorem own : ownKnob Tryd.prog.godebug = none := by kernel_rfl
theorem laidOut : laidOutB Tryd.prog = true := by kernel_rfl
theorem cells9 : Tryd.prog.cellsOf 9 = 1 := by kernel_rfl
theorem cells25 : Tryd.prog.cellsOf 25 = 1 := by kernel_rfl
theorem cells27 : Tryd.prog.cellsOf 27 = 3 := by kernel_rfl

theorem list3 : ∀ {l : List Value}, l.length = 3 → ∃ a b c, l = [a, b, c]
  | [a, b, c], _ => ⟨a, b, c, rfl⟩
theorem openedS {H : Type} {enc : TypeId × Value → H} {W : World} {v : Value} {n : Nat} {x : DataW H × List MemPlace}
    (hf : DataW.trod enc Tryd.prog W 0 (fun _ => true) true n 25 [v] = some x) : ∃ s : Sl, v = s.val ∧ s.Ok W := by
  rcases open_strings Tryd.underlying25 Tryd.underlying9 cells9 hf with ⟨hcs, _⟩ | ⟨a, len', cap', ss, hcs, _, hl, hm, hz, _, hcell, hwz⟩
  · simp only [List.cons.injEq, and_true] at hcs
    subst hcs
    exact ⟨(none, 0, []), rfl, Nat.zero_le _, fun _ => rfl, (fun _ h => by cases h), fun h => absurd h (by simp)⟩
  · simp only [List.cons.injEq, and_true] at hcs
    subst hcs
    simp only [if_true] at hz
    have hlen : (ss.take len').length = len' := by simp; omega
    refine ⟨(some a, cap', ss.take len'), by simp only [Sl.val, hlen], by simp only [hlen]; omega, (fun h => by cases h), fun t ht => hwz t (List.mem_of_mem_take ht), ?_⟩
    intro hp
    simp only [hlen] at hp
    obtain ⟨b, off, spot⟩ := a
    have hspot : spot = none := by simpa [Addr.add] using World.cell?_spot (hcell 0 (by omega))
    subst hspot
    refine ⟨b, off, rfl, fun j hj => ?_⟩
    simp only [hlen] at hj
    rw [← Go.WideShapes.add_plain, hcell j (by omega), List.getElem_take, List.getD_eq_getElem?_getD, List.getElem?_eq_getElem (by omega)]
    rfl
theorem opened {H : Type} {enc : TypeId × Value → H} {W : World} {a0 : Option Addr} {len cap : Nat} {d0 : DataW H} {p : List MemPlace}
    (h0 : DataW.Trod enc Tryd.prog W 0 (fun _ => true) true 22 (.slice a0 len cap) d0 p) :
    ∃ ms : List Mdl, ms.length = len ∧ ms.length ≤ maxLen ∧ (a0 = none → cap = 0) ∧ ViewM W a0 ms := by
  obtain ⟨fuel, hf⟩ := h0
  rcases Go.Deep.open_slice Tryd.underlying22 hf with ⟨hcs, _⟩ | ⟨a, len', cap', m, n, D, Pl, hcs, _, hl, hm, hmm, _, hx⟩
  · simp [Value.cells] at hcs
    obtain ⟨rfl, rfl, rfl⟩ := hcs
    exact ⟨[], rfl, Nat.zero_le _, fun _ => rfl, fun h => absurd h (by simp)⟩
  · simp [Value.cells] at hcs
    obtain ⟨rfl, rfl, rfl⟩ := hcs
    simp only [if_true] at hmm
    rw [cells27] at hx
    have each : ∀ i, i < m → ∃ q : Mdl, W.cell? (a.add (i * 3)) = some (.string q.1) ∧ W.cell? (a.add (i * 3 + 1)) = some q.2.1.val ∧ W.cell? (a.add (i * 3 + 2)) = some q.2.2.val ∧ q.Ok W := by
      intro i hi
      obtain ⟨cs', h1, h2⟩ := hx i hi
      obtain ⟨_, hlen, hcell⟩ := World.cells?_some h1
      obtain ⟨y0, y1, y2, k, _, _, g0, g1, g2⟩ := Go.Deep.trod_struct3 Tryd.underlying27 h2
      obtain ⟨v0, v1, v2, rfl⟩ := list3 hlen
      simp [cells9, cells25] at g0 g1 g2
      have e0 := hcell 0 (by omega)
      have e1 := hcell 1 (by omega)
      have e2 := hcell 2 (by omega)
      rw [Go.Deep.add_add] at e0 e1 e2
      obtain ⟨s, hs, _, hz⟩ := DataW.trod_string Tryd.underlying9 g0
      simp only [List.cons.injEq, and_true] at hs
      subst hs
      obtain ⟨s1, rfl, k1⟩ := openedS g1
      obtain ⟨s2, rfl, k2⟩ := openedS g2
      exact ⟨(s, s1, s2), by simpa using e0, by simpa using e1, by simpa using e2, hz, k1, k2⟩
    obtain ⟨q, hq⟩ := Go.Deep.choose_lt each
    refine ⟨(List.range len).map q, by simp, by simp; omega, (fun h => by cases h), ?_⟩
    intro hp
    simp at hp
    obtain ⟨b, off, spot⟩ := a
    have hspot : spot = none := by simpa [Addr.add] using World.cell?_spot (hq 0 (by omega)).1
    subst hspot
    refine ⟨b, off, rfl, fun j hj => ?_⟩
    simp at hj
    have e : ((List.range len).map q)[j]'(by simpa using hj) = q j := by simp
    have hh := hq j (by omega)
    rw [e]
    rw [Go.WideShapes.add_plain, Go.WideShapes.add_plain, Go.WideShapes.add_plain] at hh
    exact hh
end Go.Proofs.Qxb6000905aDoor
