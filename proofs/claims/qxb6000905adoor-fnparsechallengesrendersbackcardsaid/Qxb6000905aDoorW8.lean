/-
  WALKS of seat b6000905aD: the law's small functions that only read.
-/
import Derived.Test.Qxb6000905aDoorW7
set_option linter.unusedVariables false
namespace Go.Proofs.Qxb6000905aDoor
open Go.RowKit Go.Lib

theorem zb_true (x : Int) (w : World) (hd : (97 ≤ x ∧ x ≤ 122) ∨ (65 ≤ x ∧ x ≤ 90) ∨ (48 ≤ x ∧ x ≤ 57)) :
    Calls Tryd.prog 18 #[.int .u8 x] w fun e w' => e = .returned (.bool true) ∧ w' = w := by
  rcases hd with ⟨hd, hd'⟩ | ⟨hd, hd'⟩ | ⟨hd, hd'⟩
  all_goals
    go_enter Tryd.func18, Tryd.ntmps18
    go_wp2
    all_goals go_ret
    all_goals first | exact ⟨rfl, rfl⟩ | (exfalso; go_light; omega)
theorem zb_spec (x : Int) (w : World) (hd : x = 33 ∨ x = 35 ∨ x = 36 ∨ x = 37 ∨ x = 38 ∨ x = 39 ∨ x = 42 ∨ x = 43 ∨ x = 45 ∨ x = 46 ∨ x = 94 ∨ x = 95 ∨ x = 96 ∨ x = 124 ∨ x = 126) :
    Calls Tryd.prog 18 #[.int .u8 x] w fun e w' => e = .returned (.bool true) ∧ w' = w := by
  rcases hd with rfl | rfl | rfl | rfl | rfl | rfl | rfl | rfl | rfl | rfl | rfl | rfl | rfl | rfl | rfl
  all_goals
    go_enter Tryd.func18, Tryd.ntmps18
    go_wp2
    go_ret
    exact ⟨rfl, rfl⟩
theorem zb_no (x : Int) (w : World) (h0 : 0 ≤ x) (h1 : x < 256) (hd : 122 < x ∨ (90 < x ∧ x < 97) ∨ (57 < x ∧ x < 65) ∨ x < 48) (n33 : (x == 33) = false) (n35 : (x == 35) = false) (n36 : (x == 36) = false) (n37 : (x == 37) = false) (n38 : (x == 38) = false) (n39 : (x == 39) = false) (n42 : (x == 42) = false) (n43 : (x == 43) = false) (n45 : (x == 45) = false) (n46 : (x == 46) = false) (n94 : (x == 94) = false) (n95 : (x == 95) = false) (n96 : (x == 96) = false) (n124 : (x == 124) = false) (n126 : (x == 126) = false) :
    Calls Tryd.prog 18 #[.int .u8 x] w fun e w' => e = .returned (.bool false) ∧ w' = w := by
  have H0 := hide h0
  have H1 := hide h1
  clear h0 h1
  rcases hd with hd | ⟨hd, hd'⟩ | ⟨hd, hd'⟩ | hd
  all_goals
    go_enter Tryd.func18, Tryd.ntmps18
    go_wp2
    all_goals go_ret
    all_goals first | exact ⟨rfl, rfl⟩ | (exfalso; go_light; simp_all; done) | (exfalso; go_light; simp_all; omega)
theorem tokN (c : UInt8) : isTok c = false → (122 < c.toNat ∨ (90 < c.toNat ∧ c.toNat < 97) ∨ (57 < c.toNat ∧ c.toNat < 65) ∨ c.toNat < 48) ∧ c.toNat ≠ 33 ∧ c.toNat ≠ 35 ∧ c.toNat ≠ 36 ∧ c.toNat ≠ 37 ∧ c.toNat ≠ 38 ∧ c.toNat ≠ 39 ∧ c.toNat ≠ 42 ∧ c.toNat ≠ 43 ∧ c.toNat ≠ 45 ∧ c.toNat ≠ 46 ∧ c.toNat ≠ 94 ∧ c.toNat ≠ 95 ∧ c.toNat ≠ 96 ∧ c.toNat ≠ 124 ∧ c.toNat ≠ 126 := by
  have key : ∀ i : Fin 256, isTok (UInt8.ofNat i.val) = false → (122 < (UInt8.ofNat i.val).toNat ∨ (90 < (UInt8.ofNat i.val).toNat ∧ (UInt8.ofNat i.val).toNat < 97) ∨ (57 < (UInt8.ofNat i.val).toNat ∧ (UInt8.ofNat i.val).toNat < 65) ∨ (UInt8.ofNat i.val).toNat < 48) ∧ (UInt8.ofNat i.val).toNat ≠ 33 ∧ (UInt8.ofNat i.val).toNat ≠ 35 ∧ (UInt8.ofNat i.val).toNat ≠ 36 ∧ (UInt8.ofNat i.val).toNat ≠ 37 ∧ (UInt8.ofNat i.val).toNat ≠ 38 ∧ (UInt8.ofNat i.val).toNat ≠ 39 ∧ (UInt8.ofNat i.val).toNat ≠ 42 ∧ (UInt8.ofNat i.val).toNat ≠ 43 ∧ (UInt8.ofNat i.val).toNat ≠ 45 ∧ (UInt8.ofNat i.val).toNat ≠ 46 ∧ (UInt8.ofNat i.val).toNat ≠ 94 ∧ (UInt8.ofNat i.val).toNat ≠ 95 ∧ (UInt8.ofNat i.val).toNat ≠ 96 ∧ (UInt8.ofNat i.val).toNat ≠ 124 ∧ (UInt8.ofNat i.val).toNat ≠ 126 := by decide +kernel
  have := key ⟨c.toNat, UInt8.toNat_lt c⟩
  simpa only [UInt8.ofNat_toNat] using this
theorem tokY (c : UInt8) : isTok c = true → ((97 ≤ c.toNat ∧ c.toNat ≤ 122) ∨ (65 ≤ c.toNat ∧ c.toNat ≤ 90) ∨ (48 ≤ c.toNat ∧ c.toNat ≤ 57)) ∨ (c.toNat = 33 ∨ c.toNat = 35 ∨ c.toNat = 36 ∨ c.toNat = 37 ∨ c.toNat = 38 ∨ c.toNat = 39 ∨ c.toNat = 42 ∨ c.toNat = 43 ∨ c.toNat = 45 ∨ c.toNat = 46 ∨ c.toNat = 94 ∨ c.toNat = 95 ∨ c.toNat = 96 ∨ c.toNat = 124 ∨ c.toNat = 126) := by
  have key : ∀ i : Fin 256, isTok (UInt8.ofNat i.val) = true → ((97 ≤ (UInt8.ofNat i.val).toNat ∧ (UInt8.ofNat i.val).toNat ≤ 122) ∨ (65 ≤ (UInt8.ofNat i.val).toNat ∧ (UInt8.ofNat i.val).toNat ≤ 90) ∨ (48 ≤ (UInt8.ofNat i.val).toNat ∧ (UInt8.ofNat i.val).toNat ≤ 57)) ∨ ((UInt8.ofNat i.val).toNat = 33 ∨ (UInt8.ofNat i.val).toNat = 35 ∨ (UInt8.ofNat i.val).toNat = 36 ∨ (UInt8.ofNat i.val).toNat = 37 ∨ (UInt8.ofNat i.val).toNat = 38 ∨ (UInt8.ofNat i.val).toNat = 39 ∨ (UInt8.ofNat i.val).toNat = 42 ∨ (UInt8.ofNat i.val).toNat = 43 ∨ (UInt8.ofNat i.val).toNat = 45 ∨ (UInt8.ofNat i.val).toNat = 46 ∨ (UInt8.ofNat i.val).toNat = 94 ∨ (UInt8.ofNat i.val).toNat = 95 ∨ (UInt8.ofNat i.val).toNat = 96 ∨ (UInt8.ofNat i.val).toNat = 124 ∨ (UInt8.ofNat i.val).toNat = 126) := by decide +kernel
  have := key ⟨c.toNat, UInt8.toNat_lt c⟩
  simpa only [UInt8.ofNat_toNat] using this
/-- isTchar. -/
theorem isTokByte_any (c : UInt8) (w : World) : Calls Tryd.prog 18 #[.int .u8 c.toNat] w fun e w' => e = .returned (.bool (isTok c)) ∧ w' = w := by
  have hlt := UInt8.toNat_lt c
  cases h : isTok c with
  | true =>
    rcases tokY c h with h | h
    · exact zb_true _ w (by omega)
    · exact zb_spec _ w (by omega)
  | false =>
    obtain ⟨hd, n33, n35, n36, n37, n38, n39, n42, n43, n45, n46, n94, n95, n96, n124, n126⟩ := tokN c h
    exact zb_no _ w (by omega) (by omega) (by omega) (beqf (by omega)) (beqf (by omega)) (beqf (by omega)) (beqf (by omega)) (beqf (by omega)) (beqf (by omega)) (beqf (by omega)) (beqf (by omega)) (beqf (by omega)) (beqf (by omega)) (beqf (by omega)) (beqf (by omega)) (beqf (by omega)) (beqf (by omega)) (beqf (by omega))


def allTokB (l : List UInt8) : Bool := l.all isTok
/-- allTchar. -/
theorem allTchar_any (s : ByteArray) (w : World) (hs : s.size ≤ 1099511627776) : Calls Tryd.prog 8 #[.string s] w fun e w' => e = .returned (.bool (allTokB s.data.toList)) ∧ w' = w := by
  go_enter Tryd.func8, Tryd.ntmps8
  go_wp2
  go_loop [3] (fun x => ∃ i : Nat, i ≤ s.size ∧ x = .int .i64 i ∧ Hid (s.data.toList.all isTok = (sfx s i).all isTok)) (fun x => s.size - (RowKit.intOf x).toNat)
  case atStart => exact ⟨0, Nat.zero_le _, rfl, by unfold sfx; exact hide rfl⟩
  case round =>
    obtain ⟨i, hi, rfl, HA⟩ := hrel
    by_cases hlt : i < s.size
    · have HC := hide (isTokByte_any s[i] w)
      cases ht : isTok s[i] with
      | true =>
        rw [ht] at HC
        have HT := hide ht
        clear ht
        go_wp2_with fail
        refine (unhide HC).mono ?_
        rintro e w' ⟨rfl, hw⟩
        have hw2 := hw.symm; subst hw2
        go_wp2
        go_round
        case rel => exact ⟨i + 1, hlt, by go_num, hide (by rw [unhide HA, sfx_cons s i hlt, List.all_cons, unhide HT, Bool.true_and])⟩
        case measure => simp [RowKit.intOf]; omega
      | false =>
        rw [ht] at HC
        have HT := hide ht
        clear ht
        go_wp2_with fail
        refine (unhide HC).mono ?_
        rintro e w' ⟨rfl, hw⟩
        have hw2 := hw.symm; subst hw2
        go_wp2
        go_ret
        refine ⟨?_, rfl⟩
        unfold allTokB
        rw [unhide HA, sfx_cons s i hlt, List.all_cons, unhide HT, Bool.false_and]; rfl
    · go_wp2
      go_ret
      refine ⟨?_, rfl⟩
      unfold allTokB
      rw [unhide HA, sfx_end s i (by omega)]; rfl
end Go.Proofs.Qxb6000905aDoor
