/-
  WALKS of seat b6602621aD for the model: zzPsSignalsModel.
-/
import Derived.Test.Qxb6602621aDoorM1
import Derived.Laws.BitsAllLaws
namespace Go.Proofs.Qxb6602621aDoor
open Go.RowKit Go.Lib

/-- What the model answers. -/
def MR (o : Option Nat) (r : Ending) : Prop := r = .returned (.tuple #[.int .u64 (o.getD 0), .bool o.isSome])

theorem getD_mem {l : List UInt8} {j : Nat} (h : j < l.length) : l.getD j 0 ∈ l := by
  rw [List.getD, List.getElem?_eq_getElem h]; exact List.getElem_mem _
theorem num_step (t : List UInt8) (j : Nat) (h : j < t.length) : val 0 (t.take (j + 1)) = val 0 (t.take j) * 16 + hv (t.getD j 0) := by
  have e : t.take (j + 1) = t.take j ++ [t.getD j 0] := by
    rw [List.take_succ_eq_append_getElem h, List.getD, List.getElem?_eq_getElem h]; rfl
  rw [e, val_snoc]
theorem num_bd (t : List UInt8) (j : Nat) (hj : j ≤ 15) : val 0 (t.take j) < 1152921504606846976 := by
  have h := val_lt (t.take j) 0
  have hl : (t.take j).length ≤ 15 := by rw [List.length_take]; omega
  have h2 : (16 : Nat) ^ (t.take j).length ≤ 16 ^ 15 := Nat.pow_le_pow_right (by decide) hl
  have e : (16 : Nat) ^ 15 = 1152921504606846976 := by decide
  omega
theorem or64 (a : Int) (d : Nat) (h0 : 0 ≤ a) (h1 : a < 1152921504606846976) (hd : d < 16) : bits .or .u64 (a * 16) (d : Int) = a * 16 + d := by
  obtain ⟨n, rfl⟩ := Int.eq_ofNat_of_zero_le h0
  have h2 : n < 1152921504606846976 := by omega
  have e1 : (n : Int) * 16 = ((n * 16 : Nat) : Int) := by omega
  rw [e1, u64_or_nat _ _ (by omega) (by omega), or_add n d hd]
  omega
theorem hexI_hv {c : UInt8} (h : hexD c.toNat = some (hv c)) : hexI c.toNat = (hv c : Int) := by unfold hexI; rw [h]
theorem hexI_none {c : UInt8} (h : hexD c.toNat = none) : hexI c.toNat = -1 := by unfold hexI; rw [h]

set_option maxHeartbeats 1000000 in
set_option maxRecDepth 100000 in
theorem model_any (b off cap : Nat) (l : List UInt8) (w : World) (hn : l.length ≤ 1099511627776) (hB : HasB w b off l) :
    Calls Tryd.prog 8 #[.slice (some ⟨b, off, none⟩) l.length cap] w fun r w' => MR (psig (trimSpaceU l)) r ∧ w' = w := by
  have cT := trimModel b off cap l w hn hB
  have HB := hide hB
  clear hB
  go_enter Tryd.func8, Tryd.ntmps8
  go_wp2_with fail
  refine cT.mono ?_
  rintro r w' ⟨⟨lo, hi, rfl, h1, h2, hd⟩, hw⟩
  have hw2 := hw.symm
  subst hw2
  clear hw cT
  have HD := hide hd
  have HDL := hide (show ((l.take hi).drop lo).length = hi - lo by rw [List.length_drop, List.length_take]; omega)
  clear hd
  by_cases hlt : lo < hi
  · have hnle : ¬ hi ≤ lo := by omega
    go_wp2
    go_loop [6] (fun x => ∃ i : Nat, lo ≤ i ∧ i ≤ hi ∧ x = .int .i64 i ∧ Hid (∀ j, j < i - lo → hexD (((l.take hi).drop lo).getD j 0).toNat = some (hv (((l.take hi).drop lo).getD j 0)))) (fun x => hi - (intOf x).toNat)
    case atStart => exact ⟨lo, Nat.le_refl _, h1, rfl, fun j hj => by omega⟩
    case round =>
      obtain ⟨i, hi1, hi2, rfl, hall⟩ := hrel
      by_cases hih : i < hi
      · have hcell := (unhide HB) i (by omega)
        have hgd : ((l.take hi).drop lo).getD (i - lo) 0 = l.getD i 0 := by
          rw [getD_sub l lo hi _ (by omega)]
          congr 1; omega
        have h256 := UInt8.toNat_lt (l.getD i 0)
        by_cases hx : hexD (l.getD i 0).toNat = none
        · have hbad : Hid (psig (trimSpaceU l) = none) := by
            rw [← unhide HD]
            refine psig_bad _ ⟨((l.take hi).drop lo).getD (i - lo) 0, getD_mem (by rw [unhide HDL]; omega), ?_⟩
            rw [hgd]; exact hx
          have he := hexI_none hx
          clear hx hgd
          generalize (l.getD i 0).toNat = c at *
          go_wp2_with (go_at_call 13; refine (hexDigit_any _ _ h256).mono ?_; rintro e w' ⟨rfl, hw⟩; have hw2 := hw.symm; subst hw2)
          go_ret2
          exact ⟨by rw [hbad.out]; rfl, rfl⟩
        · have hst : Hid (∀ j, j < i + 1 - lo → hexD (((l.take hi).drop lo).getD j 0).toNat = some (hv (((l.take hi).drop lo).getD j 0))) := fun j hj => by
            by_cases hji : j = i - lo
            · subst hji; rw [hgd]; exact hexD_hv hx
            · exact hall.out j (by omega)
          have he := hexI_hv (hexD_hv hx)
          clear hx hgd
          generalize hv (l.getD i 0) = dg at *
          generalize (l.getD i 0).toNat = c at *
          have hd0 : ¬ (dg : Int) < 0 := by omega
          go_wp2_with (go_at_call 13; refine (hexDigit_any _ _ h256).mono ?_; rintro e w' ⟨rfl, hw⟩; have hw2 := hw.symm; subst hw2)
          go_round
          case rel => exact ⟨i + 1, by omega, by omega, by go_num, hst⟩
          case measure => simp [intOf]; omega
      · have hie : i = hi := by omega
        have HA : Hid (AllHex ((l.take hi).drop lo)) := by
          intro c hc
          obtain ⟨j, hj, rfl⟩ := List.getElem_of_mem hc
          rw [unhide HDL] at hj
          have := hall.out j (by omega)
          rwa [List.getD, List.getElem?_eq_getElem (by rw [unhide HDL]; exact hj)] at this
        have hni : ¬ (i : Int) < (hi : Int) := by omega
        clear hall hie
        by_cases h16 : 16 < hi - lo
        · have hg16 : (16 : Int) < (hi : Int) - (lo : Int) := by omega
          have hfr : (hi : Int) - 16 = ((hi - 16 : Nat) : Int) := by omega
          go_wp2
          go_loop [8] (fun x => ∃ k : Nat, lo ≤ k ∧ k ≤ hi - 16 ∧ x = .int .i64 k ∧ Hid (∀ j, j < k - lo → ((l.take hi).drop lo).getD j 0 = 48)) (fun x => hi - 16 - (intOf x).toNat)
          case atStart => exact ⟨lo, Nat.le_refl _, by omega, rfl, fun j hj => by omega⟩
          case round =>
            obtain ⟨k, hk1, hk2, rfl, hz⟩ := hrel
            by_cases hkf : k < hi - 16
            · have hgd : ((l.take hi).drop lo).getD (k - lo) 0 = l.getD k 0 := by
                rw [getD_sub l lo hi _ (by omega)]
                congr 1; omega
              have hcell := (unhide HB) k (by omega)
              have hkI : (k : Int) < ((hi - 16 : Nat) : Int) := by omega
              by_cases h48 : l.getD k 0 = 48
              · have hst : Hid (∀ j, j < k + 1 - lo → ((l.take hi).drop lo).getD j 0 = 48) := fun j hj => by
                  by_cases hji : j = k - lo
                  · subst hji; rw [hgd]; exact h48
                  · exact hz.out j (by omega)
                rw [h48] at hcell
                clear hgd h48
                go_wp2
                go_round
                case rel => exact ⟨k + 1, by omega, by omega, by go_num, hst⟩
                case measure => simp [intOf]; omega
              · have hnb : (((l.getD k 0).toNat : Int) == 48) = false := beqf (fun e => h48 (by rw [← UInt8.toNat_inj]; exact Int.ofNat.inj e))
                have h256 := UInt8.toNat_lt (l.getD k 0)
                by_cases hfar : 16 < hi - 16 - k
                · have hbad : Hid (psig (trimSpaceU l) = none) := by
                    rw [← unhide HD]
                    refine psig_far _ (unhide HA) (by rw [unhide HDL]; exact h16) (k - lo) (by rw [unhide HDL]; omega) (fun j hj => hz.out j hj) (by rw [hgd]; exact h48) (by rw [unhide HDL]; omega)
                  have hfI : (16 : Int) < ((hi - 16 : Nat) : Int) - (k : Int) := by omega
                  clear hgd h48
                  generalize (l.getD k 0).toNat = c at *
                  go_wp2
                  go_ret2
                  exact ⟨by rw [hbad.out]; rfl, rfl⟩
                · have hval : Hid (psig ((l.take hi).drop lo) = some (val 0 (((l.take hi).drop lo).drop (hi - 16 - lo)))) := by
                    have := psig_long _ (unhide HA) (by rw [unhide HDL]; exact h16) (k - lo) (by rw [unhide HDL]; omega) (fun j hj => hz.out j hj) (by rw [unhide HDL]; omega)
                    rw [unhide HDL, show hi - lo - 16 = hi - 16 - lo by omega] at this
                    exact this
                  have hfI : ¬ (16 : Int) < ((hi - 16 : Nat) : Int) - (k : Int) := by omega
                  clear hgd h48 hz
                  generalize (l.getD k 0).toNat = c at *
                  go_wp2
                  go_loop [9, 10] (fun x y => ∃ (i : Nat) (a : Int), (hi - 16) ≤ i ∧ i ≤ hi ∧ x = .int .u64 a ∧ y = .int .i64 i ∧ Hid (a = (val 0 (((((l.take hi).drop lo)).drop ((hi - 16) - lo)).take (i - (hi - 16))) : Int))) (fun _ y => hi - (intOf y).toNat)
                  case atStart => exact ⟨(hi - 16), 0, Nat.le_refl _, by omega, rfl, rfl, by rw [Nat.sub_self]; rfl⟩
                  case round =>
                    obtain ⟨i, a, hj1, hj2, rfl, rfl, hX⟩ := hrel
                    by_cases hih : i < hi
                    · have htl : (((l.take hi).drop lo).drop ((hi - 16) - lo)).length = hi - (hi - 16) := by rw [List.length_drop, unhide HDL]; omega
                      have hst := num_step (((l.take hi).drop lo).drop ((hi - 16) - lo)) (i - (hi - 16)) (by omega)
                      have hbd := num_bd (((l.take hi).drop lo).drop ((hi - 16) - lo)) (i - (hi - 16)) (by omega)
                      have hgd : (((l.take hi).drop lo).drop ((hi - 16) - lo)).getD (i - (hi - 16)) 0 = l.getD i 0 := by
                        rw [getD_dropU, getD_sub l lo hi _ (by omega)]
                        congr 1; omega
                      rw [hgd] at hst
                      have hcell := (unhide HB) i (by omega)
                      have hcx : hexD (l.getD i 0).toNat = some (hv (l.getD i 0)) := by
                        rw [← hgd]
                        exact ((unhide HA).drop _) _ (getD_mem (by omega))
                      have he := hexI_hv hcx
                      have h16 := hv_lt (l.getD i 0)
                      have h256 := UInt8.toNat_lt (l.getD i 0)
                      have hn1 : Hid (a * 16 + (hv (l.getD i 0) : Int) = (val 0 ((((l.take hi).drop lo).drop ((hi - 16) - lo)).take (i + 1 - (hi - 16))) : Int)) := by
                        refine hide ?_
                        have e1 : i + 1 - (hi - 16) = i - (hi - 16) + 1 := by omega
                        rw [e1, hst, hX.out]
                        omega
                      have ha1 : a < 1152921504606846976 := by rw [hX.out]; omega
                      have ha0 : 0 ≤ a := by rw [hX.out]; omega
                      have hor := or64 a (hv (l.getD i 0)) ha0 ha1 h16
                      clear hst hbd hgd hcx htl
                      generalize hv (l.getD i 0) = dg at *
                      generalize (l.getD i 0).toNat = c at *
                      go_wp2_with (go_at_call 13; refine (hexDigit_any _ _ h256).mono ?_; rintro e w' ⟨rfl, hw⟩; have hw2 := hw.symm; subst hw2)
                      go_round
                      case rel => exact ⟨i + 1, a * 16 + dg, by omega, by omega, rfl, by go_num, hn1⟩
                      case measure => simp [intOf]; omega
                    · have hie : i = hi := by omega
                      have hfin : Hid (a = (val 0 (((l.take hi).drop lo).drop ((hi - 16) - lo)) : Int)) := by
                        rw [hX.out, List.take_of_length_le (by rw [List.length_drop, unhide HDL]; omega)]; rfl
                      have hni : ¬ (i : Int) < (hi : Int) := by omega
                      clear hie hX
                      go_wp2
                      go_ret2
                      refine ⟨?_, rfl⟩
                      rw [← unhide HD, unhide hval, hfin.out]
                      rfl
            · have hke : k = hi - 16 := by omega
              have hval : Hid (psig ((l.take hi).drop lo) = some (val 0 (((l.take hi).drop lo).drop (hi - 16 - lo)))) := by
                have := psig_long _ (unhide HA) (by rw [unhide HDL]; exact h16) (k - lo) (by rw [unhide HDL]; omega) (fun j hj => hz.out j hj) (by rw [unhide HDL]; omega)
                rw [unhide HDL, show hi - lo - 16 = hi - 16 - lo by omega] at this
                exact this
              have hfI : ¬ (16 : Int) < ((hi - 16 : Nat) : Int) - (k : Int) := by omega
              have hnk : ¬ (k : Int) < ((hi - 16 : Nat) : Int) := by omega
              clear hke hz
              go_wp2
              go_loop [9, 10] (fun x y => ∃ (i : Nat) (a : Int), (hi - 16) ≤ i ∧ i ≤ hi ∧ x = .int .u64 a ∧ y = .int .i64 i ∧ Hid (a = (val 0 (((((l.take hi).drop lo)).drop ((hi - 16) - lo)).take (i - (hi - 16))) : Int))) (fun _ y => hi - (intOf y).toNat)
              case atStart => exact ⟨(hi - 16), 0, Nat.le_refl _, by omega, rfl, rfl, by rw [Nat.sub_self]; rfl⟩
              case round =>
                obtain ⟨i, a, hj1, hj2, rfl, rfl, hX⟩ := hrel
                by_cases hih : i < hi
                · have htl : (((l.take hi).drop lo).drop ((hi - 16) - lo)).length = hi - (hi - 16) := by rw [List.length_drop, unhide HDL]; omega
                  have hst := num_step (((l.take hi).drop lo).drop ((hi - 16) - lo)) (i - (hi - 16)) (by omega)
                  have hbd := num_bd (((l.take hi).drop lo).drop ((hi - 16) - lo)) (i - (hi - 16)) (by omega)
                  have hgd : (((l.take hi).drop lo).drop ((hi - 16) - lo)).getD (i - (hi - 16)) 0 = l.getD i 0 := by
                    rw [getD_dropU, getD_sub l lo hi _ (by omega)]
                    congr 1; omega
                  rw [hgd] at hst
                  have hcell := (unhide HB) i (by omega)
                  have hcx : hexD (l.getD i 0).toNat = some (hv (l.getD i 0)) := by
                    rw [← hgd]
                    exact ((unhide HA).drop _) _ (getD_mem (by omega))
                  have he := hexI_hv hcx
                  have h16 := hv_lt (l.getD i 0)
                  have h256 := UInt8.toNat_lt (l.getD i 0)
                  have hn1 : Hid (a * 16 + (hv (l.getD i 0) : Int) = (val 0 ((((l.take hi).drop lo).drop ((hi - 16) - lo)).take (i + 1 - (hi - 16))) : Int)) := by
                    refine hide ?_
                    have e1 : i + 1 - (hi - 16) = i - (hi - 16) + 1 := by omega
                    rw [e1, hst, hX.out]
                    omega
                  have ha1 : a < 1152921504606846976 := by rw [hX.out]; omega
                  have ha0 : 0 ≤ a := by rw [hX.out]; omega
                  have hor := or64 a (hv (l.getD i 0)) ha0 ha1 h16
                  clear hst hbd hgd hcx htl
                  generalize hv (l.getD i 0) = dg at *
                  generalize (l.getD i 0).toNat = c at *
                  go_wp2_with (go_at_call 13; refine (hexDigit_any _ _ h256).mono ?_; rintro e w' ⟨rfl, hw⟩; have hw2 := hw.symm; subst hw2)
                  go_round
                  case rel => exact ⟨i + 1, a * 16 + dg, by omega, by omega, rfl, by go_num, hn1⟩
                  case measure => simp [intOf]; omega
                · have hie : i = hi := by omega
                  have hfin : Hid (a = (val 0 (((l.take hi).drop lo).drop ((hi - 16) - lo)) : Int)) := by
                    rw [hX.out, List.take_of_length_le (by rw [List.length_drop, unhide HDL]; omega)]; rfl
                  have hni : ¬ (i : Int) < (hi : Int) := by omega
                  clear hie hX
                  go_wp2
                  go_ret2
                  refine ⟨?_, rfl⟩
                  rw [← unhide HD, unhide hval, hfin.out]
                  rfl
        · have hg16 : ¬ (16 : Int) < (hi : Int) - (lo : Int) := by omega
          have hval : Hid (psig ((l.take hi).drop lo) = some (val 0 (((l.take hi).drop lo).drop (lo - lo)))) := by
            rw [Nat.sub_self, List.drop_zero]
            exact psig_short _ (unhide HA) (by rw [unhide HDL]; omega) (by rw [unhide HDL]; exact h16)
          go_wp2
          go_loop [9, 10] (fun x y => ∃ (i : Nat) (a : Int), lo ≤ i ∧ i ≤ hi ∧ x = .int .u64 a ∧ y = .int .i64 i ∧ Hid (a = (val 0 (((((l.take hi).drop lo)).drop (lo - lo)).take (i - lo)) : Int))) (fun _ y => hi - (intOf y).toNat)
          case atStart => exact ⟨lo, 0, Nat.le_refl _, by omega, rfl, rfl, by rw [Nat.sub_self]; rfl⟩
          case round =>
            obtain ⟨i, a, hj1, hj2, rfl, rfl, hX⟩ := hrel
            by_cases hih : i < hi
            · have htl : (((l.take hi).drop lo).drop (lo - lo)).length = hi - lo := by rw [List.length_drop, unhide HDL]; omega
              have hst := num_step (((l.take hi).drop lo).drop (lo - lo)) (i - lo) (by omega)
              have hbd := num_bd (((l.take hi).drop lo).drop (lo - lo)) (i - lo) (by omega)
              have hgd : (((l.take hi).drop lo).drop (lo - lo)).getD (i - lo) 0 = l.getD i 0 := by
                rw [getD_dropU, getD_sub l lo hi _ (by omega)]
                congr 1; omega
              rw [hgd] at hst
              have hcell := (unhide HB) i (by omega)
              have hcx : hexD (l.getD i 0).toNat = some (hv (l.getD i 0)) := by
                rw [← hgd]
                exact ((unhide HA).drop _) _ (getD_mem (by omega))
              have he := hexI_hv hcx
              have h16 := hv_lt (l.getD i 0)
              have h256 := UInt8.toNat_lt (l.getD i 0)
              have hn1 : Hid (a * 16 + (hv (l.getD i 0) : Int) = (val 0 ((((l.take hi).drop lo).drop (lo - lo)).take (i + 1 - lo)) : Int)) := by
                refine hide ?_
                have e1 : i + 1 - lo = i - lo + 1 := by omega
                rw [e1, hst, hX.out]
                omega
              have ha1 : a < 1152921504606846976 := by rw [hX.out]; omega
              have ha0 : 0 ≤ a := by rw [hX.out]; omega
              have hor := or64 a (hv (l.getD i 0)) ha0 ha1 h16
              clear hst hbd hgd hcx htl
              generalize hv (l.getD i 0) = dg at *
              generalize (l.getD i 0).toNat = c at *
              go_wp2_with (go_at_call 13; refine (hexDigit_any _ _ h256).mono ?_; rintro e w' ⟨rfl, hw⟩; have hw2 := hw.symm; subst hw2)
              go_round
              case rel => exact ⟨i + 1, a * 16 + dg, by omega, by omega, rfl, by go_num, hn1⟩
              case measure => simp [intOf]; omega
            · have hie : i = hi := by omega
              have hfin : Hid (a = (val 0 (((l.take hi).drop lo).drop (lo - lo)) : Int)) := by
                rw [hX.out, List.take_of_length_le (by rw [List.length_drop, unhide HDL]; omega)]; rfl
              have hni : ¬ (i : Int) < (hi : Int) := by omega
              clear hie hX
              go_wp2
              go_ret2
              refine ⟨?_, rfl⟩
              rw [← unhide HD, unhide hval, hfin.out]
              rfl
  · have hd0 : Hid (psig (trimSpaceU l) = none) := by
      have hnil : (l.take hi).drop lo = [] := List.eq_nil_of_length_eq_zero (by rw [unhide HDL]; omega)
      rw [← unhide HD, hnil]; rfl
    have hge : (lo : Int) ≥ (hi : Int) := by omega
    go_wp2
    go_ret2
    exact ⟨by rw [hd0.out]; rfl, rfl⟩
end Go.Proofs.Qxb6602621aDoor
