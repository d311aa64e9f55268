/-
  WALKS of seat b6602621aD: zzPsAppendHex16.
-/
import Derived.Test.Qxb6602621aDoorW2
namespace Go.Proofs.Qxb6602621aDoor
open Go.RowKit Go.Lib

/-- Bytes as cells. -/
def cellsB (l : List UInt8) : List Value := l.map fun c => .int .u8 c.toNat
theorem cellsB_append (a b : List UInt8) : cellsB (a ++ b) = cellsB a ++ cellsB b := by simp [cellsB]
theorem Tryd.info5 : (Tryd.prog.info? 5).map (fun i => (i.zero, i.size, i.bytes)) = some (some (.int .u8 0), 1, 1) := by kernel_rfl

theorem own_step {B : Nat} {bs : List UInt8} {u v' : Value} {w wr w1 : World} {o : Obj} {c : Int} {d : UInt8} (hc : c = (d.toNat : Int)) (hB : B ≤ w.heap.size)
    (ho : wr.ownsRow B 5 1 u bs.length (cellsB bs)) (hnx : Below B w wr)
    (hown' : w1.ownsRow B 5 1 v' (bs.length + 1) (cellsB bs ++ [.int .u8 c])) (hgrow : (wr.alloc o).grownBy w1 u.ownBlock) :
    w1.ownsRow B 5 1 v' (bs ++ [d]).length (cellsB (bs ++ [d])) ∧ Below B w w1 := by
  subst hc
  refine ⟨by rw [List.length_append, cellsB_append]; exact hown', ?_⟩
  have h1 : B ≤ wr.heap.size := Nat.le_trans hB hnx.size
  exact (hnx.alloc h1 o).grown hgrow (by simp; omega) (fun k e => (ho.lt k e).1)

theorem one_cell (z : Int) : ∀ u : Value, u ∈ [Value.int .u8 z] → u.oneCell' = true := by intro u hu; simp at hu; subst hu; rfl
theorem size_up {B : Nat} {w : World} (h : B ≤ w.heap.size) (o : Obj) : B ≤ (w.alloc o).heap.size := by simp; omega
theorem maxLen_of {n : Nat} (h : n ≤ 1099511627792) : n + 1 ≤ maxLen ∧ (n + 1) * 1 ≤ 140737488355328 := by unfold maxLen; omega

theorem nib (x k : Nat) : ((x : Int) / 2 ^ (4 * (k + 1) - 4) % 16) = ((x / 16 ^ k % 16 : Nat) : Int) := by
  have h : (2 : Nat) ^ (4 * (k + 1) - 4) = 16 ^ k := by
    rw [show 4 * (k + 1) - 4 = 4 * k by omega, Nat.pow_mul]
  have h2 : ((2 : Int) ^ (4 * (k + 1) - 4)) = ((2 ^ (4 * (k + 1) - 4) : Nat) : Int) := by simp
  rw [h2, h]
  omega

set_option maxHeartbeats 1000000 in
set_option maxRecDepth 100000 in
theorem appendHex_any (B : Nat) (v : Value) (bs : List UInt8) (x : Nat) (up : Bool) (w : World) (hlen : bs.length ≤ 1099511627776)
    (hB : B ≤ w.heap.size) (hown : w.ownsRow B 5 1 v bs.length (cellsB bs)) :
    Calls Tryd.prog 11 #[v, .int .u64 x, .bool up] w fun e w' => ∃ v', e = .returned v' ∧ w'.ownsRow B 5 1 v' (bs ++ hexK up x 16).length (cellsB (bs ++ hexK up x 16)) ∧ Below B w w' := by
  obtain ⟨i0, hi, hz0, hz1, hz2⟩ := info_parts Tryd.info5
  go_enter Tryd.func11, Tryd.ntmps11
  go_wp2
  go_loopw [0, 7] (fun u s wr => ∃ (k : Nat) (g : List UInt8), k ≤ 16 ∧ s = .int .i64 (4 * (k : Int) - 4) ∧ wr.ownsRow B 5 1 u (bs ++ g).length (cellsB (bs ++ g)) ∧ Below B w wr ∧ Hid (hexK up x 16 = g ++ hexK up x k))
    (fun _ s _ => (intOf s + 4).toNat)
  case atStart => exact ⟨16, [], Nat.le_refl _, rfl, by simpa using hown, Below.refl _ _, rfl⟩
  case round =>
    obtain ⟨k, g, hk, rfl, ho, hnx, hg⟩ := hrel
    have hgl : (bs ++ g).length ≤ 1099511627792 := by
      have := congrArg List.length hg.out
      rw [List.length_append, hexK_length, hexK_length] at this
      rw [List.length_append]; omega
    have hwr : B ≤ wr.heap.size := Nat.le_trans hB hnx.size
    cases k with
    | succ k =>
      have h1 : 4 * ((k + 1 : Nat) : Int) - 4 ≥ 0 := by omega
      have h2 : 4 * ((k + 1 : Nat) : Int) - 4 ≤ 60 := by omega
      have hd16 : x / 16 ^ k % 16 < 16 := Nat.mod_lt _ (by decide)
      have hdn := digC_nat up _ hd16
      have hg2 : hexK up x 16 = (g ++ [digC up (x / 16 ^ k % 16)]) ++ hexK up x k := by rw [hg.out]; simp [hexK]
      have HG := hide hg2
      have HN := hide (nib x k)
      have HD := hide hdn
      have H16 := hide hd16
      clear hg2 hdn hd16
      by_cases hd : (x : Int) / 2 ^ (4 * (k + 1) - 4) % 16 < 10
      · go_wp2_with (at_builtin; refine wpList_append_own _ rfl _ _ 22 rfl B 5 i0 (.int .u8 0) 1 1 Tryd.underlying22 hi hz0 hz1 hz2 rfl (by decide) _ _ _ rfl (ho.alloc _) ⟨wr.heap.size, 0, none⟩ 1 1 [.int .u8 (48 + (x : Int) / 2 ^ (4 * (k + 1) - 4) % 16)] rfl rfl (cell_one_new _ _ _) (one_cell _) (maxLen_of hgl).1 (maxLen_of hgl).2 (size_up hwr _) ?_)
        intro v' w1 hown' hgrow _
        have hc : (48 + (x : Int) / 2 ^ (4 * (k + 1) - 4) % 16) = ((digC up (x / 16 ^ k % 16)).toNat : Int) := by
          rw [unhide HN] at hd ⊢
          rw [unhide HD, if_pos (by omega)]; omega
        try rw [← List.length_append] at hown'
        have R := own_step hc hB ho hnx hown' hgrow
        rw [List.append_assoc] at R
        clear hown' hgrow ho hc
        go_wp2
        go_roundw
        case rel => exact ⟨k, g ++ [digC up (x / 16 ^ k % 16)], by omega, by go_num, R.1, R.2, HG⟩
        case measure => simp [intOf]; omega
      · cases up with
        | true =>
          go_wp2_with (at_builtin; refine wpList_append_own _ rfl _ _ 22 rfl B 5 i0 (.int .u8 0) 1 1 Tryd.underlying22 hi hz0 hz1 hz2 rfl (by decide) _ _ _ rfl (ho.alloc _) ⟨wr.heap.size, 0, none⟩ 1 1 [.int .u8 (65 + (x : Int) / 2 ^ (4 * (k + 1) - 4) % 16 - 10)] rfl rfl (cell_one_new _ _ _) (one_cell _) (maxLen_of hgl).1 (maxLen_of hgl).2 (size_up hwr _) ?_)
          intro v' w1 hown' hgrow _
          have hc : (65 + (x : Int) / 2 ^ (4 * (k + 1) - 4) % 16 - 10) = ((digC true (x / 16 ^ k % 16)).toNat : Int) := by
            rw [unhide HN] at hd ⊢
            rw [unhide HD, if_neg (by omega)]; simp; omega
          try rw [← List.length_append] at hown'
          have R := own_step hc hB ho hnx hown' hgrow
          rw [List.append_assoc] at R
          clear hown' hgrow ho hc
          go_wp2
          go_roundw
          case rel => exact ⟨k, g ++ [digC true (x / 16 ^ k % 16)], by omega, by go_num, R.1, R.2, HG⟩
          case measure => simp [intOf]; omega
        | false =>
          go_wp2_with (at_builtin; refine wpList_append_own _ rfl _ _ 22 rfl B 5 i0 (.int .u8 0) 1 1 Tryd.underlying22 hi hz0 hz1 hz2 rfl (by decide) _ _ _ rfl (ho.alloc _) ⟨wr.heap.size, 0, none⟩ 1 1 [.int .u8 (97 + (x : Int) / 2 ^ (4 * (k + 1) - 4) % 16 - 10)] rfl rfl (cell_one_new _ _ _) (one_cell _) (maxLen_of hgl).1 (maxLen_of hgl).2 (size_up hwr _) ?_)
          intro v' w1 hown' hgrow _
          have hc : (97 + (x : Int) / 2 ^ (4 * (k + 1) - 4) % 16 - 10) = ((digC false (x / 16 ^ k % 16)).toNat : Int) := by
            rw [unhide HN] at hd ⊢
            rw [unhide HD, if_neg (by omega)]; simp; omega
          try rw [← List.length_append] at hown'
          have R := own_step hc hB ho hnx hown' hgrow
          rw [List.append_assoc] at R
          clear hown' hgrow ho hc
          go_wp2
          go_roundw
          case rel => exact ⟨k, g ++ [digC false (x / 16 ^ k % 16)], by omega, by go_num, R.1, R.2, HG⟩
          case measure => simp [intOf]; omega
    | zero =>
      go_wp2
      go_ret
      have hgn : hexK up x 16 = g := by have := hg.out; simpa [hexK] using this
      rw [hgn]
      exact ⟨_, rfl, ho, hnx⟩
end Go.Proofs.Qxb6602621aDoor
