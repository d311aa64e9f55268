/-
  WALKS of seat b6000905aD: sameLower, stringsBytes.
-/
import Derived.Test.Qxb6000905aDoorW11
set_option linter.unusedVariables false
namespace Go.Proofs.Qxb6000905aDoor
open Go.RowKit Go.Lib

def sameB (a b : List UInt8) : Bool := decide (toLowerA a = toLowerA b)
def lowZ (x : Int) : Int := if 65 ≤ x ∧ x ≤ 90 then x + 32 else x
theorem lowZ_byte (c : UInt8) : lowZ (c.toNat : Int) = ((lowerB c).toNat : Int) := by
  unfold lowZ
  by_cases h : 65 ≤ c.toNat ∧ c.toNat ≤ 90
  · rw [if_pos (by omega), (low_byte c).1 h]; omega
  · rw [if_neg (by omega), (low_byte c).2 h]
theorem lowerZ_any (x : Int) (w : World) : Calls Tryd.prog 21 #[.int .u8 x] w fun e w' => e = .returned (.int .u8 (lowZ x)) ∧ w' = w := by
  by_cases h1 : (65 : Int) ≤ x
  · by_cases h2 : x ≤ 90
    · have HX : Hid (lowZ x = x + 32) := hide (by unfold lowZ; rw [if_pos ⟨h1, h2⟩])
      rw [unhide HX]
      go_enter Tryd.func21, Tryd.ntmps21
      go_wp2
      go_ret
      exact ⟨rfl, rfl⟩
    · have h2' : (90 : Int) < x := by omega
      have HX : Hid (lowZ x = x) := hide (by unfold lowZ; rw [if_neg (by omega)])
      rw [unhide HX]
      go_enter Tryd.func21, Tryd.ntmps21
      go_wp2
      go_ret
      exact ⟨rfl, rfl⟩
  · have h1' : x < 65 := by omega
    have HX : Hid (lowZ x = x) := hide (by unfold lowZ; rw [if_neg (by omega)])
    rw [unhide HX]
    go_enter Tryd.func21, Tryd.ntmps21
    go_wp2
    go_ret
    exact ⟨rfl, rfl⟩
theorem drewN_drewN (w : World) (a b : Nat) : (w.drewN a).drewN b = w.drewN (a + b) := by simp
theorem drewn_more {w wr : World} (h : ∃ n, wr = w.drewN n) (b : Nat) : ∃ n, wr.drewN b = w.drewN n := by
  obtain ⟨n, rfl⟩ := h
  exact ⟨_, drewN_drewN w n b⟩
theorem low_sfx_cons (s : ByteArray) (i : Nat) (h : i < s.size) : toLowerA (sfx s i) = lowerB s[i] :: toLowerA (sfx s (i + 1)) := by rw [sfx_cons s i h]; rfl
set_option maxHeartbeats 1000000 in
theorem sameLower_any (s t : ByteArray) (w : World) (hs : s.size ≤ 1099511627776) (ht : t.size ≤ 1099511627776) :
    Calls Tryd.prog 13 #[.string s, .string t] w fun e w' => e = .returned (.bool (sameB s.data.toList t.data.toList)) ∧ ∃ n, w' = w.drewN n := by
  by_cases hl : s.size = t.size
  · have hne : ((s.size : Int) != (t.size : Int)) = false := by simp [hl]
    have HL := hide hl
    clear hl
    go_enter Tryd.func13, Tryd.ntmps13
    go_wp2
    go_loopw [5] (fun x wr => ∃ i : Nat, i ≤ s.size ∧ x = .int .i64 i ∧ Hid (∃ n, wr = w.drewN n) ∧ Hid (sameB s.data.toList t.data.toList = sameB (sfx s i) (sfx t i))) (fun x _ => s.size - (RowKit.intOf x).toNat)
    case atStart => exact ⟨0, Nat.zero_le _, rfl, hide ⟨0, rfl⟩, hide rfl⟩
    case round =>
      obtain ⟨i, hi, rfl, HW, HA⟩ := hrel
      by_cases hlt : i < s.size
      · have hlt2 : i < t.size := by have := unhide HL; omega
        have h0i : (i : Int) < (s.size : Int) := by omega
        have h0t : (i : Int) < (t.size : Int) := by omega
        have HS := hide (low_sfx_cons s i hlt)
        have HT := hide (low_sfx_cons t i hlt2)
        have C1 := hide (fun W => lowerByte_any s[i] W)
        have C2 := hide (fun W => lowerByte_any t[i] W)
        by_cases he : lowerB s[i] = lowerB t[i]
        · have hq : (lowZ (s[i].toNat : Int) != lowZ (t[i].toNat : Int)) = false := by rw [lowZ_byte, lowZ_byte, he]; simp
          have HE := hide he
          clear he
          go_wp2_with fail
          go_quiet ((go_at_call 21; exact Calls.quiet_of_same (lowerZ_any _ _)))
          go_wp2
          go_roundw
          case rel =>
            refine ⟨i + 1, hlt, by go_num, hide (drewn_more (unhide HW) _), hide ?_⟩
            rw [unhide HA]
            unfold sameB
            rw [unhide HS, unhide HT, unhide HE]
            simp
          case measure => simp [RowKit.intOf]; omega
        · have hq : (lowZ (s[i].toNat : Int) != lowZ (t[i].toNat : Int)) = true := by
            rw [lowZ_byte, lowZ_byte]
            exact bne_iff_ne.2 fun h => he (UInt8.toNat_inj.1 (Int.ofNat.inj h))
          have HE := hide he
          clear he
          go_wp2_with fail
          go_quiet ((go_at_call 21; exact Calls.quiet_of_same (lowerZ_any _ _)))
          go_wp2
          go_ret
          refine ⟨?_, drewn_more (unhide HW) _⟩
          rw [unhide HA]
          unfold sameB
          rw [unhide HS, unhide HT]
          have : decide (lowerB s[i] :: toLowerA (sfx s (i + 1)) = lowerB t[i] :: toLowerA (sfx t (i + 1))) = false := decide_eq_false (fun h => unhide HE (List.cons.inj h).1)
          rw [this]; rfl
      · go_wp2
        go_ret
        refine ⟨?_, unhide HW⟩
        rw [unhide HA, sfx_end s i (by omega), sfx_end t i (by have := unhide HL; omega)]; rfl
  · have hne : ((s.size : Int) != (t.size : Int)) = true := by simp; omega
    have HX : Hid (sameB s.data.toList t.data.toList = false) := hide (decide_eq_false (fun h => hl (by have := congrArg List.length h; unfold toLowerA at this; simpa using this)))
    clear hl
    rw [unhide HX]
    go_enter Tryd.func13, Tryd.ntmps13
    go_wp2
    go_ret
    exact ⟨rfl, 0, rfl⟩
end Go.Proofs.Qxb6000905aDoor
