/-
  WALKS of seat b6000614aD: zzStrsBytes and the bounds.
-/
import Derived.Test.Qxb6000614aDoorW6
set_option linter.unusedVariables false
namespace Go.Proofs.Qxb6000614aDoor
open Go.RowKit Go.Lib

/-- The bytes of a slice of strings, sixteen a header. -/
def sB : List ByteArray → Nat
  | [] => 0
  | t :: r => t.size + 16 + sB r
theorem sB_append : ∀ (a b : List ByteArray), sB (a ++ b) = sB a + sB b
  | [], b => by simp [sB]
  | t :: r, b => by simp only [List.cons_append, sB, sB_append r b]; omega
theorem sB_take (ss : List ByteArray) (i : Nat) (h : i < ss.length) : sB (ss.take (i + 1)) = sB (ss.take i) + (ss[i].size + 16) := by
  rw [List.take_succ_eq_append_getElem h, sB_append]; simp [sB]
/-- What zzStrsBytes answers. -/
def SBEnd (ss : List ByteArray) (e : Ending) : Prop := ∃ r : Int, e = .returned (.int .i64 r) ∧ 0 ≤ r ∧ r ≤ 1048577 ∧ (r ≤ 1048576 → r = sB ss)
theorem SBEnd.big (ss : List ByteArray) : SBEnd ss (.returned (.int .i64 1048577)) := ⟨_, rfl, by omega, by omega, fun h => by omega⟩

theorem strsBytes_any (p : Option Addr) (cap : Nat) (ss : List ByteArray) (w : World) (hn : ss.length ≤ maxLen) (hV : ViewS w p ss) : Calls Tryd.prog 8 #[.slice p ss.length cap] w fun e w' => SBEnd ss e ∧ w' = w := by
  have HV := hide hV
  clear hV
  unfold maxLen at hn
  by_cases hbig : (1048576 : Int) < (ss.length : Int)
  · go_enter Tryd.func8, Tryd.ntmps8
    go_wp2
    go_ret
    exact ⟨SBEnd.big _, rfl⟩
  · have hsm : (ss.length : Int) ≤ 1048576 := by omega
    go_enter Tryd.func8, Tryd.ntmps8
    go_wp2
    go_loop [3, 4] (fun t x => ∃ (i : Nat) (z : Int), i ≤ ss.length ∧ x = .int .i64 i ∧ t = .int .i64 z ∧ 0 ≤ z ∧ z ≤ 1048576 ∧ Hid (z = sB (ss.take i))) (fun _ x => ss.length - (RowKit.intOf x).toNat)
    case atStart => exact ⟨0, 0, Nat.zero_le _, rfl, rfl, by omega, by omega, hide rfl⟩
    case round =>
      obtain ⟨i, z, hi, rfl, rfl, hz0, hz1, HZ⟩ := hrel
      by_cases hlt : i < ss.length
      · obtain ⟨b, o, rfl, hc⟩ := unhide HV (by omega)
        have hci := hc i hlt
        clear hc
        have HT := hide (sB_take ss i hlt)
        generalize hSI : (ss[i].size : Nat) = m at *
        have hm0 : (0 : Int) ≤ (m : Int) := by omega
        by_cases h1 : (1048576 : Int) < (m : Int)
        · go_wp2
          go_ret
          exact ⟨SBEnd.big _, rfl⟩
        · have h1' : (m : Int) ≤ 1048576 := by omega
          by_cases h2 : (1048576 : Int) < z + ((m : Int) + 16)
          · go_wp2
            go_ret
            exact ⟨SBEnd.big _, rfl⟩
          · have h2' : z + ((m : Int) + 16) ≤ 1048576 := by omega
            go_wp2
            go_round
            case rel => exact ⟨i + 1, z + ((m : Int) + 16), hlt, by go_num, rfl, by omega, h2', hide (by rw [unhide HZ, unhide HT]; omega)⟩
            case measure => simp [RowKit.intOf]; omega
      · go_wp2
        go_ret
        have e : ss.take i = ss := List.take_of_length_le (by omega)
        refine ⟨⟨z, rfl, hz0, by omega, fun _ => ?_⟩, rfl⟩
        rw [unhide HZ, e]
end Go.Proofs.Qxb6000614aDoor
