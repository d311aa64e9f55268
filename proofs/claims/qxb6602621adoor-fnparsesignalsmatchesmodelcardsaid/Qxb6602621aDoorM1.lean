/-
  WALKS of seat b6602621aD for the model: zzPsHexDigit, zzPsSpaceEndingAt, zzPsTrimSpace.
-/
import Derived.Test.Qxb6602621aDoorW2
import Derived.Test.Qxb6602621aDoorPlb
namespace Go.Proofs.Qxb6602621aDoor
open Go.RowKit Go.Lib

/-- zzPsHexDigit. -/
def hexI (c : Nat) : Int := match hexD c with | some d => d | none => -1
set_option maxHeartbeats 400000 in
set_option maxRecDepth 100000 in
theorem hexDigit_any (c : Nat) (w : World) (hc : c < 256) :
    Calls Tryd.prog 13 #[.int .u8 c] w fun e w' => e = .returned (.int .i64 (hexI c)) ∧ w' = w := by
  have h256 : (c : Int) < 256 := by omega
  by_cases h1 : 48 ≤ c ∧ c ≤ 57
  · have e : hexI c = (c : Int) - 48 := by unfold hexI hexD; rw [if_pos h1]; simp only; omega
    rw [e]
    have i1 : (48 : Int) ≤ c := by omega
    have i2 : (c : Int) ≤ 57 := by omega
    go_enter Tryd.func13, Tryd.ntmps13
    go_wp2
    go_ret
    exact ⟨rfl, rfl⟩
  · by_cases h2 : 97 ≤ c ∧ c ≤ 102
    · have e : hexI c = (c : Int) - 97 + 10 := by unfold hexI hexD; rw [if_neg h1, if_pos h2]; simp only; omega
      rw [e]
      have i1 : (97 : Int) ≤ c := by omega
      have i2 : (c : Int) ≤ 102 := by omega
      go_enter Tryd.func13, Tryd.ntmps13
      go_wp2
      go_ret
      exact ⟨rfl, rfl⟩
    · by_cases h3 : 65 ≤ c ∧ c ≤ 70
      · have e : hexI c = (c : Int) - 65 + 10 := by unfold hexI hexD; rw [if_neg h1, if_neg h2, if_pos h3]; simp only; omega
        rw [e]
        have i1 : (65 : Int) ≤ c := by omega
        have i2 : (c : Int) ≤ 70 := by omega
        go_enter Tryd.func13, Tryd.ntmps13
        go_wp2
        go_ret
        exact ⟨rfl, rfl⟩
      · have e : hexI c = -1 := by unfold hexI hexD; rw [if_neg h1, if_neg h2, if_neg h3]
        rw [e]
        have i1 : (c : Int) < 48 ∨ (57 : Int) < c := by omega
        have i2 : (c : Int) < 97 ∨ (102 : Int) < c := by omega
        have i3 : (c : Int) < 65 ∨ (70 : Int) < c := by omega
        clear h1 h2 h3
        go_enter Tryd.func13, Tryd.ntmps13
        go_wp2
        all_goals go_ret
        all_goals first | exact ⟨rfl, rfl⟩ | (exfalso; omega)

/-- The last k bytes of l[lo:e]. -/
theorem last_sub (l : List UInt8) (lo e k : Nat) (he : e ≤ l.length) (hk : lo + k ≤ e) : ((l.take e).drop lo).drop (((l.take e).drop lo).length - k) = (l.take e).drop (e - k) := by
  rw [List.drop_drop, List.length_drop, List.length_take, Nat.min_eq_left he]
  congr 1
  omega

set_option maxHeartbeats 400000 in
theorem spaceEnd_any (b off cap lo e : Nat) (l : List UInt8) (w : World) (hlo : lo < e) (hen : e ≤ l.length) (hn : l.length ≤ 1099511627776) (hB : HasB w b off l) :
    Calls Tryd.prog 19 #[.slice (some ⟨b, off, none⟩) l.length cap, .int .i64 lo, .int .i64 e] w fun r w' => r = .returned (.int .i64 (tailSpace ((l.take e).drop lo))) ∧ w' = w := by
  have cS := fun i (hie : i < e) => spaceAt_l b off cap i e l w hie hen hn hB
  have HS := hide cS
  clear cS hB
  have hxl : ((l.take e).drop lo).length = e - lo := by rw [List.length_drop, List.length_take]; omega
  have HX := hide hxl
  clear hxl
  go_enter Tryd.func19, Tryd.ntmps19
  go_wp2
  go_loop [7] (fun x => ∃ k : Nat, 1 ≤ k ∧ k ≤ 4 ∧ x = .int .i64 k ∧ Hid (∀ j, 1 ≤ j → j < k → lo + j ≤ e → headSpace ((l.take e).drop (e - j)) ≠ j)) (fun x => 4 - (intOf x).toNat)
  case atStart => exact ⟨1, by omega, by omega, rfl, fun j h1 h2 => by omega⟩
  case round =>
    obtain ⟨k, hk1, hk4, rfl, hno⟩ := hrel
    by_cases hk3 : k ≤ 3
    · by_cases hin : lo + k ≤ e
      · have hsub : (e : Int) - (k : Int) = ((e - k : Nat) : Int) := by omega
        have hge : (e : Int) - (k : Int) ≥ (lo : Int) := by omega
        by_cases hyes : headSpace ((l.take e).drop (e - k)) = k
        · go_wp2_with fail
          refine (unhide HS (e - k) (by omega)).mono ?_
          rw [hyes]
          rintro r w' ⟨rfl, hw⟩
          subst hw
          have ht := tail_yes ((l.take e).drop lo) k hk1 (by rw [unhide HX]; omega) (by rw [last_sub l lo e k hen hin]; exact hyes)
          have HT := hide ht
          clear ht hyes
          go_wp2
          go_ret
          exact ⟨by rw [unhide HT]; rfl, rfl⟩
        · go_wp2_with fail
          refine (unhide HS (e - k) (by omega)).mono ?_
          have hst : Hid (∀ j, 1 ≤ j → j < k + 1 → lo + j ≤ e → headSpace ((l.take e).drop (e - j)) ≠ j) := fun j h1 h2 h3 => by
            by_cases hj : j = k
            · subst hj; exact hyes
            · exact hno.out j h1 (by omega) h3
          have hnb : ((headSpace ((l.take e).drop (e - k)) : Int) == (k : Int)) = false := beqf (by omega)
          generalize headSpace ((l.take e).drop (e - k)) = h at hnb
          clear hyes
          rintro r w' ⟨rfl, hw⟩
          subst hw
          go_wp2
          go_round
          case rel => exact ⟨k + 1, by omega, by omega, by go_num, hst⟩
          case measure => simp [intOf]; omega
      · have hlt : (e : Int) - (k : Int) < (lo : Int) := by omega
        have hst : Hid (∀ j, 1 ≤ j → j < k + 1 → lo + j ≤ e → headSpace ((l.take e).drop (e - j)) ≠ j) := fun j h1 h2 h3 => by
          by_cases hj : j = k
          · subst hj; exact absurd h3 hin
          · exact hno.out j h1 (by omega) h3
        go_wp2
        go_round
        case rel => exact ⟨k + 1, by omega, by omega, by go_num, hst⟩
        case measure => simp [intOf]; omega
    · have hk : k = 4 := by omega
      subst hk
      have ht := tail_no ((l.take e).drop lo) (fun j h1 h2 h3 => by
        rw [unhide HX] at h3
        rw [last_sub l lo e j hen (by omega)]
        exact hno.out j h1 (by omega) (by omega))
      have HT := hide ht
      clear ht
      go_wp2
      go_ret
      exact ⟨by rw [unhide HT]; rfl, rfl⟩

/-- zzPsTrimSpace(b, 0, len(b)). -/
def TrimR (l : List UInt8) (r : Ending) : Prop := ∃ lo hi : Nat, r = .returned (.tuple #[.int .i64 lo, .int .i64 hi]) ∧ lo ≤ hi ∧ hi ≤ l.length ∧ (l.take hi).drop lo = trimSpaceU l

set_option maxHeartbeats 400000 in
theorem trimModel (b off cap : Nat) (l : List UInt8) (w : World) (hn : l.length ≤ 1099511627776) (hB : HasB w b off l) :
    Calls Tryd.prog 15 #[.slice (some ⟨b, off, none⟩) l.length cap, .int .i64 0, .int .i64 l.length] w fun r w' => TrimR l r ∧ w' = w := by
  have HB := hide hB
  clear hB
  go_enter Tryd.func15, Tryd.ntmps15
  go_wp2
  go_loop [1] (fun x => ∃ lo : Nat, lo ≤ l.length ∧ x = .int .i64 lo ∧ Hid (sL l = sL (l.drop lo))) (fun x => l.length - (intOf x).toNat)
  case atStart => exact ⟨0, Nat.zero_le _, rfl, rfl⟩
  case round =>
    obtain ⟨lo, hlo, rfl, hs⟩ := hrel
    by_cases hlt : lo < l.length
    · have hle := headSpace_le (l.drop lo)
      rw [List.length_drop] at hle
      have cS := spaceAt_l b off cap lo l.length l w hlt (Nat.le_refl _) hn (unhide HB)
      rw [List.take_length] at cS
      by_cases hz : headSpace (l.drop lo) = 0
      · have hse : Hid (sL l = l.drop lo) := by rw [hs.out]; exact sL_stop _ hz
        rw [hz] at cS
        clear hs hz
        go_wp2_with fail
        refine cS.mono ?_
        rintro r w' ⟨rfl, hw⟩
        have hw2 := hw.symm
        subst hw2
        clear hw
        go_wp2
        go_loop [2] (fun x => ∃ hi : Nat, lo ≤ hi ∧ hi ≤ l.length ∧ x = .int .i64 hi ∧ Hid (sR (l.drop lo) = sR ((l.take hi).drop lo))) (fun x => (intOf x).toNat)
        case atStart => exact ⟨l.length, hlo, Nat.le_refl _, rfl, by rw [List.take_length]; rfl⟩
        case round =>
          obtain ⟨hi, hh1, hh2, rfl, hr⟩ := hrel
          have hxl : ((l.take hi).drop lo).length = hi - lo := by rw [List.length_drop, List.length_take]; omega
          by_cases hgt : lo < hi
          · have hle2 := tailSpace_le ((l.take hi).drop lo)
            rw [hxl] at hle2
            have cE := spaceEnd_any b off cap lo hi l w hgt hh2 hn (unhide HB)
            by_cases hz : tailSpace ((l.take hi).drop lo) = 0
            · have hfin : Hid ((l.take hi).drop lo = trimSpaceU l) := by rw [trimU_sR, hse.out, hr.out, sR_stop _ hz]; rfl
              rw [hz] at cE
              clear hr hz hxl hle2
              go_wp2_with fail
              refine cE.mono ?_
              rintro r w' ⟨rfl, hw⟩
              subst hw
              go_wp2
              go_ret2
              exact ⟨⟨lo, hi, rfl, hh1, hh2, hfin.out⟩, rfl⟩
            · have hst : Hid (sR (l.drop lo) = sR ((l.take (hi - tailSpace ((l.take hi).drop lo))).drop lo)) := by
                have := hr.out.trans (sR_step _ hz)
                rw [hxl, List.take_drop, List.take_take] at this
                rw [show min (lo + (hi - lo - tailSpace ((l.take hi).drop lo))) hi = hi - tailSpace ((l.take hi).drop lo) by omega] at this
                exact this
              have hzb : ((tailSpace ((l.take hi).drop lo) : Int) == 0) = false := beqf (by omega)
              clear hr hxl
              generalize tailSpace ((l.take hi).drop lo) = k at *
              go_wp2_with fail
              refine cE.mono ?_
              rintro r w' ⟨rfl, hw⟩
              subst hw
              go_wp2
              go_round
              case rel => exact ⟨hi - k, by omega, by omega, by first | go_num | (congr 1; omega), hst⟩
              case measure => simp [intOf]; omega
          · have hhe : hi = lo := by omega
            have hfin : Hid ((l.take hi).drop lo = trimSpaceU l) := by
              have hx0 : (l.take hi).drop lo = [] := List.eq_nil_of_length_eq_zero (by omega)
              rw [trimU_sR, hse.out, hr.out, hx0]; rfl
            have hng : ¬ (lo : Int) < (hi : Int) := by omega
            clear hr hxl hhe
            go_wp2
            go_ret2
            exact ⟨⟨lo, hi, rfl, hh1, hh2, hfin.out⟩, rfl⟩
      · have hst : Hid (sL l = sL (l.drop (lo + headSpace (l.drop lo)))) := by
          have := hs.out.trans (sL_step _ hz)
          rwa [List.drop_drop] at this
        have hzb : ((headSpace (l.drop lo) : Int) == 0) = false := beqf (by omega)
        clear hs
        generalize headSpace (l.drop lo) = k at *
        go_wp2_with fail
        refine cS.mono ?_
        rintro r w' ⟨rfl, hw⟩
        subst hw
        go_wp2
        go_round
        case rel => exact ⟨lo + k, by omega, by go_num, hst⟩
        case measure => simp [intOf]; omega
    · have hse : Hid (sL l = l.drop lo) := by rw [hs.out, List.drop_eq_nil_of_le (by omega)]; rfl
      have hnl : ¬ (lo : Int) < (l.length : Int) := by omega
      clear hs
      go_wp2
      go_loop [2] (fun x => ∃ hi : Nat, lo ≤ hi ∧ hi ≤ l.length ∧ x = .int .i64 hi ∧ Hid (sR (l.drop lo) = sR ((l.take hi).drop lo))) (fun x => (intOf x).toNat)
      case atStart => exact ⟨l.length, hlo, Nat.le_refl _, rfl, by rw [List.take_length]; rfl⟩
      case round =>
        obtain ⟨hi, hh1, hh2, rfl, hr⟩ := hrel
        have hxl : ((l.take hi).drop lo).length = hi - lo := by rw [List.length_drop, List.length_take]; omega
        by_cases hgt : lo < hi
        · have hle2 := tailSpace_le ((l.take hi).drop lo)
          rw [hxl] at hle2
          have cE := spaceEnd_any b off cap lo hi l w hgt hh2 hn (unhide HB)
          by_cases hz : tailSpace ((l.take hi).drop lo) = 0
          · have hfin : Hid ((l.take hi).drop lo = trimSpaceU l) := by rw [trimU_sR, hse.out, hr.out, sR_stop _ hz]; rfl
            rw [hz] at cE
            clear hr hz hxl hle2
            go_wp2_with fail
            refine cE.mono ?_
            rintro r w' ⟨rfl, hw⟩
            subst hw
            go_wp2
            go_ret2
            exact ⟨⟨lo, hi, rfl, hh1, hh2, hfin.out⟩, rfl⟩
          · have hst : Hid (sR (l.drop lo) = sR ((l.take (hi - tailSpace ((l.take hi).drop lo))).drop lo)) := by
              have := hr.out.trans (sR_step _ hz)
              rw [hxl, List.take_drop, List.take_take] at this
              rw [show min (lo + (hi - lo - tailSpace ((l.take hi).drop lo))) hi = hi - tailSpace ((l.take hi).drop lo) by omega] at this
              exact this
            have hzb : ((tailSpace ((l.take hi).drop lo) : Int) == 0) = false := beqf (by omega)
            clear hr hxl
            generalize tailSpace ((l.take hi).drop lo) = k at *
            go_wp2_with fail
            refine cE.mono ?_
            rintro r w' ⟨rfl, hw⟩
            subst hw
            go_wp2
            go_round
            case rel => exact ⟨hi - k, by omega, by omega, by first | go_num | (congr 1; omega), hst⟩
            case measure => simp [intOf]; omega
        · have hhe : hi = lo := by omega
          have hfin : Hid ((l.take hi).drop lo = trimSpaceU l) := by
            have hx0 : (l.take hi).drop lo = [] := List.eq_nil_of_length_eq_zero (by omega)
            rw [trimU_sR, hse.out, hr.out, hx0]; rfl
          have hng : ¬ (lo : Int) < (hi : Int) := by omega
          clear hr hxl hhe
          go_wp2
          go_ret2
          exact ⟨⟨lo, hi, rfl, hh1, hh2, hfin.out⟩, rfl⟩
end Go.Proofs.Qxb6602621aDoor
