/-
  WALKS of seat b6000614aD: find, ZZFind.
-/
import Derived.Test.Qxb6000614aDoorW17
set_option linter.unusedVariables false
namespace Go.Proofs.Qxb6000614aDoor
open Go.RowKit Go.Lib

/-- n challenges in a row: scheme T j, map Mp j. -/
def RowC (w : World) (g n : Nat) (T : Nat → ByteArray) (Mp : Nat → Nat) : Prop := ∀ j, j < n → w.cell? ⟨g, j * 2, none⟩ = some (.string (T j)) ∧ w.cell? ⟨g, j * 2 + 1, none⟩ = some (.map (some (Mp j)))
theorem RowC.below {w w' : World} {g n : Nat} {T : Nat → ByteArray} {Mp : Nat → Nat} (h : RowC w g n T Mp) (hb : Below w.heap.size w w') : RowC w' g n T Mp := by
  intro j hj
  obtain ⟨h1, h2⟩ := h j hj
  have hlt := World.block_lt_of_cell? w _ h1
  exact ⟨(hb.cell (p := ⟨g, j * 2, none⟩) hlt).trans h1, (hb.cell (p := ⟨g, j * 2 + 1, none⟩) hlt).trans h2⟩

theorem box_cells {w : World} {b : Nat} {x y : Value} (h : w.heap[b]? = some (.cells #[x, y] 35 (0, 0))) : w.cell? ⟨b, 0, none⟩ = some x ∧ w.cell? ⟨b, 1, none⟩ = some y ∧ w.frozen? ⟨b, 0, none⟩ = false ∧ w.frozen? ⟨b, 1, none⟩ = false := by
  simp [World.cell?, World.frozen?, h]
theorem box_set {w : World} {b : Nat} {x y : Value} (h : w.heap[b]? = some (.cells #[x, y] 35 (0, 0))) (u v : Value) : (w.setCell ⟨b, 0, none⟩ u).cell? ⟨b, 0, none⟩ = some u ∧ ((w.setCell ⟨b, 0, none⟩ u).setCell ⟨b, 1, none⟩ v).cell? ⟨b, 1, none⟩ = some v := by
  simp [World.cell?, World.setCell, Array.getElem?_modify, h]
set_option maxHeartbeats 1000000 in
set_option maxRecDepth 100000 in
theorem find_some (g n cap k : Nat) (T : Nat → ByteArray) (Mp : Nat → Nat) (q : ByteArray) (w : World) (hn : n ≤ 1048576) (hk : k < n) (hq : T k = q) (hf : ∀ j, j < k → T j ≠ q) (hr : RowC w g n T Mp) :
    Calls Tryd.prog 30 #[.slice (some ⟨g, 0, none⟩) n cap, .string q] w fun e w' => e = .returned (.tuple #[.agg #[.string q, .map (some (Mp k))], .bool true]) ∧ Below w.heap.size w w' := by
  have HR := hide hr
  have HF := hide hf
  have HQ := hide hq
  clear hr hf hq
  go_enter Tryd.func30, Tryd.ntmps30
  go_wp2
  go_loopw [10] (fun x wr => ∃ i : Nat, i ≤ k ∧ x = .int .i64 i ∧ Hid (Below w.heap.size w wr) ∧ Hid (wr.heap[w.heap.size]? = some (.cells #[.string ⟨#[]⟩, .map none] 35 (0, 0)))) (fun x _ => n - (RowKit.intOf x).toNat)
  case atStart => exact ⟨0, Nat.zero_le _, rfl, hide ((Below.refl _ _).alloc (Nat.le_refl _) _), hide (heap_alloc_new w _)⟩
  case round =>
    obtain ⟨i, hik, rfl, HB, HX⟩ := hrel
    have hin : (i : Int) < (n : Int) := by omega
    obtain ⟨c0, c1⟩ := (unhide HR).below (unhide HB) i (by omega)
    have hN : w.heap.size < wr.heap.size := (Array.getElem?_eq_some_iff.1 (unhide HX)).1
    have HY : Hid (∀ o, (wr.alloc o).heap[w.heap.size]? = some (.cells #[.string ⟨#[]⟩, .map none] 35 (0, 0))) := hide fun o => (Below.heap_alloc wr o _ hN).trans (unhide HX)
    by_cases he : i = k
    · subst he
      rw [unhide HQ] at c0
      go_upto_region 5 with fail
      have hX := unhide HY (.cells #[.string q, .map (some (Mp i))] 35)
      have hG := heap_alloc_new wr (.cells #[.string q, .map (some (Mp i))] 35)
      have HBW := hide ((unhide HB).alloc (Nat.le_of_lt hN) (.cells #[.string q, .map (some (Mp i))] 35))
      have hNG : w.heap.size ≠ wr.heap.size := by omega
      clear HY
      generalize wr.alloc (.cells #[.string q, .map (some (Mp i))] 35) = W at *
      generalize wr.heap.size = G at *
      obtain ⟨x0, x1, f0, f1⟩ := box_cells hX
      obtain ⟨y0, y1, _, _⟩ := box_cells hG
      have HX2 := hide hX
      clear hX hG
      go_wp2
      obtain ⟨z0, z1⟩ := box_set (unhide HX2) (.string q) (.map (some (Mp i)))
      exact bodyPost_ret (v := .tuple #[.agg #[.string q, .map (some (Mp i))], .bool true]) (by simp [results, Tryd.results30, go_sem, z0, z1]) rfl ⟨rfl, ((unhide HBW).setCell (Nat.le_refl _) _).setCell (Nat.le_refl _) _⟩
    · have hne := unhide HF i (by omega)
      have hnb : ((T i).toList == q.toList) = false := by
        rw [ByteArray.toList_eq, ByteArray.toList_eq]
        exact beq_eq_false_iff_ne.2 fun h => hne (WideShapes.bytes_inj h)
      clear hne
      go_wp2
      go_roundw
      case rel => exact ⟨i + 1, by omega, by go_num, hide ((unhide HB).alloc (Nat.le_of_lt hN) _), hide (unhide HY _)⟩
      case measure => simp [RowKit.intOf]; omega

set_option maxHeartbeats 1000000 in
set_option maxRecDepth 100000 in
theorem find_none (p : Option Addr) (g n cap : Nat) (T : Nat → ByteArray) (Mp : Nat → Nat) (q : ByteArray) (w : World) (hn : n ≤ 1048576) (hf : ∀ j, j < n → T j ≠ q) (hp : 0 < n → p = some ⟨g, 0, none⟩) (hr : RowC w g n T Mp) :
    Calls Tryd.prog 30 #[.slice p n cap, .string q] w fun e w' => e = .returned (.tuple #[.agg #[.string ⟨#[]⟩, .map none], .bool false]) ∧ Below w.heap.size w w' := by
  have HR := hide hr
  have HF := hide hf
  have HP := hide hp
  clear hr hf hp
  go_enter Tryd.func30, Tryd.ntmps30
  go_wp2
  go_loopw [10] (fun x wr => ∃ i : Nat, i ≤ n ∧ x = .int .i64 i ∧ Hid (Below w.heap.size w wr) ∧ Hid (wr.heap[w.heap.size]? = some (.cells #[.string ⟨#[]⟩, .map none] 35 (0, 0)))) (fun x _ => n - (RowKit.intOf x).toNat)
  case atStart => exact ⟨0, Nat.zero_le _, rfl, hide ((Below.refl _ _).alloc (Nat.le_refl _) _), hide (heap_alloc_new w _)⟩
  case round =>
    obtain ⟨i, hik, rfl, HB, HX⟩ := hrel
    have hN : w.heap.size < wr.heap.size := (Array.getElem?_eq_some_iff.1 (unhide HX)).1
    by_cases hlt : i < n
    · have hin : (i : Int) < (n : Int) := by omega
      have hpp := unhide HP (by omega)
      subst hpp
      obtain ⟨c0, c1⟩ := (unhide HR).below (unhide HB) i hlt
      have HY : Hid (∀ o, (wr.alloc o).heap[w.heap.size]? = some (.cells #[.string ⟨#[]⟩, .map none] 35 (0, 0))) := hide fun o => (Below.heap_alloc wr o _ hN).trans (unhide HX)
      have hne := unhide HF i hlt
      have hnb : ((T i).toList == q.toList) = false := by
        rw [ByteArray.toList_eq, ByteArray.toList_eq]
        exact beq_eq_false_iff_ne.2 fun h => hne (WideShapes.bytes_inj h)
      clear hne
      go_wp2
      go_roundw
      case rel => exact ⟨i + 1, by omega, by go_num, hide ((unhide HB).alloc (Nat.le_of_lt hN) _), hide (unhide HY _)⟩
      case measure => simp [RowKit.intOf]; omega
    · obtain ⟨x0, x1, f0, f1⟩ := box_cells (unhide HX)
      go_wp2
      obtain ⟨z0, z1⟩ := box_set (unhide HX) (.string ⟨#[]⟩) (.map none)
      exact bodyPost_ret (v := .tuple #[.agg #[.string ⟨#[]⟩, .map none], .bool false]) (by simp [results, Tryd.results30, go_sem, z0, z1]) rfl ⟨rfl, ((unhide HB).setCell (Nat.le_refl _) _).setCell (Nat.le_refl _) _⟩

/-- ZZFind, out of find. -/
theorem zzfind_any (v : Value) (q t : ByteArray) (m : Option Nat) (ok : Bool) (w : World) (h : ∀ W, Below w.heap.size w W → Calls Tryd.prog 30 #[v, .string q] W fun e w' => e = .returned (.tuple #[.agg #[.string t, .map m], .bool ok]) ∧ Below W.heap.size W w') :
    Calls Tryd.prog 25 #[v, .string q] w fun e w' => e = .returned (.tuple #[.agg #[.string t, .map m], .bool ok]) ∧ Below w.heap.size w w' := by
  have HC := hide (h _ ((Below.refl _ _).alloc (Nat.le_refl _) (.cells #[.string ⟨#[]⟩, .map none] 35)))
  clear h
  go_enter Tryd.func25, Tryd.ntmps25
  go_wp2_with fail
  refine (unhide HC).mono ?_
  rintro e w1 ⟨rfl, b1⟩
  have hX : w1.heap[w.heap.size]? = some (.cells #[.string ⟨#[]⟩, .map none] 35 (0, 0)) := (b1.block _ (by simp)).trans (heap_alloc_new w _)
  have HB := hide (below_al (Below.refl w.heap.size w) (Nat.le_refl _) (b1.mono (by simp)))
  clear b1 HC
  obtain ⟨x0, x1, f0, f1⟩ := box_cells hX
  have HX := hide hX
  clear hX
  go_wp2
  obtain ⟨z0, z1⟩ := box_set (unhide HX) (.string t) (.map m)
  exact bodyPost_ret (v := .tuple #[.agg #[.string t, .map m], .bool ok]) (by simp [results, Tryd.results25, go_sem, z0, z1]) rfl ⟨rfl, ((unhide HB).setCell (Nat.le_refl _) _).setCell (Nat.le_refl _) _⟩
end Go.Proofs.Qxb6000614aDoor
