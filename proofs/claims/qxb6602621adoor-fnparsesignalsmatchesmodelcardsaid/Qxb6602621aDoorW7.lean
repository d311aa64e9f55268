/-
  WALKS of seat b6602621aD: bytes.TrimSpace at every slice of bytes (the walk).
-/
import Derived.Test.Qxb6602621aDoorW6
import Derived.Deep.Light
namespace Go.Proofs.Qxb6602621aDoor
open Go.RowKit Go.Lib

theorem get_of (l : List UInt8) (k : Nat) (h : k < l.length) : l[k]? = some (l.getD k 0) := by
  rw [List.getD, List.getElem?_eq_getElem h]; rfl

theorem HasB.sub {w : World} {b off : Nat} {l : List UInt8} (h : HasB w b off l) (i n : Nat) (hn : i + n ≤ l.length) : HasB w b (off + i) ((l.drop i).take n) := by
  intro j hj
  rw [List.length_take, List.length_drop] at hj
  rw [getD_takeU _ _ _ (by omega), getD_dropU, Nat.add_assoc]
  exact h (i + j) (by omega)
theorem HasB.drop {w : World} {b off : Nat} {l : List UInt8} (h : HasB w b off l) (i : Nat) (hn : i ≤ l.length) : HasB w b (off + i) (l.drop i) := by
  have := h.sub i (l.length - i) (by omega)
  rwa [List.take_of_length_le (by rw [List.length_drop]; omega)] at this

/-- What bytes.TrimSpace hands back: the trimmed bytes, as a slice. -/
def Trimmed (l : List UInt8) (w : World) (e : Ending) (w' : World) : Prop := (∃ v, e = .returned v ∧ SliceB w' v (trimSpaceD l)) ∧ Below w.heap.size w w'

set_option maxHeartbeats 1000000 in
set_option maxRecDepth 100000 in
theorem trimSpace_any (b off cap : Nat) (l : List UInt8) (w : World) (hcap : l.length ≤ cap) (hs : l.length ≤ 1099511627776) (hB : HasB w b off l) (hT : Tabs w) :
    Calls Tryd.prog 17 #[.slice (some ⟨b, off, none⟩) l.length cap] w fun e w' => Trimmed l w e w' := by
  have HB := hide hB
  have HT := hide hT
  clear hB hT
  go_enter Tryd.func17, Tryd.ntmps17
  go_wp2
  go_loop [9, 0] (fun i s0 => s0 = .slice (some ⟨b, off, none⟩) l.length cap ∧ ∃ k : Nat, k ≤ l.length ∧ i = .int .i64 k ∧ Hid (∀ (j : Nat) y, j < k → l[j]? = some y → isSp y = true)) (fun i _ => l.length - (intOf i).toNat)
  case atStart => exact ⟨rfl, 0, Nat.zero_le _, rfl, fun j y hj => absurd hj (Nat.not_lt_zero _)⟩
  case round =>
    obtain ⟨rfl, k, hk, rfl, hsp⟩ := hrel
    by_cases hkn : k < l.length
    · obtain ⟨x, hX⟩ : ∃ x, x = l.getD k 0 := ⟨_, rfl⟩
      have Hxk : Hid (l[k]? = some x) := by rw [hX]; exact get_of l k hkn
      have hc1 : w.cell? ⟨b, off + k, none⟩ = some (.int .u8 x.toNat) := by rw [hX]; exact (unhide HB) k hkn
      have hx256 : (x.toNat : Int) < 256 := by have := UInt8.toNat_lt x; omega
      have hTx : w.cell? ⟨0, x.toNat, none⟩ = some (.int .u8 (if isSp x then 1 else 0)) := by
        have := (unhide HT).1 x.toNat (UInt8.toNat_lt x)
        simpa using this
      have hT0 : (k : Int) < (l.length : Int) := by omega
      have hkc : ¬ cap = k := by omega
      clear hX
      by_cases h128 : (128 : Int) ≤ (x.toNat : Int)
      · clear hTx
        have cF := trimFunc_any b (off + k) (cap - k) (l.drop k) w (by rw [List.length_drop]; omega) (by rw [List.length_drop]; omega) ((unhide HB).drop k hk) (unhide HT)
        rw [List.length_drop] at cF
        go_wp2_with fail
        refine cF.mono ?_
        rintro e W' ⟨⟨v, rfl, hv⟩, hb⟩
        go_wp2
        go_ret
        refine ⟨⟨_, rfl, ?_⟩, hb⟩
        rw [exit_func l k hk hsp.out]
        exact hv
      cases hsx : isSp x with
      | true =>
        rw [hsx] at hTx
        simp only [if_true] at hTx
        go_wp2
        go_round
        case rel =>
          refine ⟨rfl, k + 1, by omega, by go_num, fun j y hj hy => ?_⟩
          by_cases e : j = k
          · subst e
            rw [Hxk.out] at hy
            cases hy
            exact hsx
          · exact hsp.out j y (by omega) hy
        case measure => simp [intOf]; omega
      | false =>
        rw [hsx] at hTx
        simp only [Bool.false_eq_true, if_false] at hTx
        have hkn2 : (k : Int) ≤ (l.length : Int) := by omega
        go_wp2
        go_loop [5] (fun h => ∃ m : Nat, m < l.length - k ∧ h = .int .i64 m ∧ Hid (∀ (j : Nat) y, k + m < j → l[j]? = some y → isSp y = true)) (fun h => (intOf h).toNat)
        case atStart =>
          refine ⟨l.length - k - 1, by omega, by first | go_num | (congr 1; omega), fun j y hj hy => ?_⟩
          have := (List.getElem?_eq_some_iff.1 hy).1
          omega
        case round =>
          obtain ⟨m, hm, rfl, hsp2⟩ := hrel
          obtain ⟨y, hY⟩ : ∃ y, y = l.getD (k + m) 0 := ⟨_, rfl⟩
          have Hym : Hid (l[k + m]? = some y) := by rw [hY]; exact get_of l (k + m) (by omega)
          have hc2 : w.cell? ⟨b, off + k + m, none⟩ = some (.int .u8 y.toNat) := by rw [hY, Nat.add_assoc]; exact (unhide HB) (k + m) (by omega)
          have hy256 : (y.toNat : Int) < 256 := by have := UInt8.toNat_lt y; omega
          have hTy : w.cell? ⟨0, y.toNat, none⟩ = some (.int .u8 (if isSp y then 1 else 0)) := by
            have := (unhide HT).1 y.toNat (UInt8.toNat_lt y)
            simpa using this
          have hmb : (m : Int) < ((l.length - k : Nat) : Int) := by omega
          have hmc : (m : Int) + 1 ≤ ((cap - k : Nat) : Int) := by omega
          clear hY
          by_cases hy128 : (128 : Int) ≤ (y.toNat : Int)
          · clear hTy
            have hsl : ((l.drop k).take (m + 1)).length = m + 1 := by rw [List.length_take, List.length_drop]; omega
            have cF := trimFunc_any b (off + k) (cap - k) ((l.drop k).take (m + 1)) w (by rw [hsl]; omega) (by rw [hsl]; omega) ((unhide HB).sub k (m + 1) (by omega)) (unhide HT)
            rw [hsl] at cF
            clear hsl
            have htn : ((m : Int) + 1).toNat = m + 1 := by omega
            go_wp2_with fail
            refine cF.mono ?_
            rintro e W' ⟨⟨v, rfl, hv⟩, hb⟩
            go_wp2
            go_ret
            refine ⟨⟨_, rfl, ?_⟩, hb⟩
            have hxa : x.toNat < 128 := by omega
            have hxx : (l.drop k).take (m + 1) = x :: ((l.drop k).take (m + 1)).tail := by
              have h0 : l.drop k = x :: l.drop (k + 1) := by
                rw [List.drop_eq_getElem_cons hkn]
                have := Hxk.out
                rw [List.getElem?_eq_getElem hkn] at this
                rw [Option.some.inj this]
              rw [h0]; rfl
            rw [exit_right l k (k + m) (by omega) (by omega) hsp.out x Hxk.out hsx hxa hsp2.out, show k + m + 1 - k = m + 1 by omega]
            rw [hxx, trimD_right x _ hsx hxa, ← hxx] at hv
            exact hv
          cases hsy : isSp y with
          | true =>
            rw [hsy] at hTy
            simp only [if_true] at hTy
            have hm0 : 0 < m := by
              rcases Nat.eq_zero_or_pos m with e | e
              · subst e
                have h1 := Hym.out
                rw [Nat.add_zero, Hxk.out] at h1
                rw [← Option.some.inj h1, hsx] at hsy
                cases hsy
              · exact e
            go_wp2
            go_round
            case rel =>
              refine ⟨m - 1, by omega, by first | go_num | (congr 1; omega), fun j z hj hz => ?_⟩
              by_cases e : j = k + m
              · subst e
                rw [Hym.out] at hz
                cases hz
                exact hsy
              · exact hsp2.out j z (by omega) hz
            case measure => simp [intOf]; omega
          | false =>
            rw [hsy] at hTy
            simp only [Bool.false_eq_true, if_false] at hTy
            have htn : ((m : Int) + 1).toNat = m + 1 := by omega
            go_wp2
            go_ret
            refine ⟨⟨_, rfl, ?_⟩, Below.refl _ _⟩
            have hcut := exit_cut l k (k + m) (by omega) (by omega) hsp.out x Hxk.out hsx (by omega) y Hym.out hsy (by omega) hsp2.out
            rw [hcut, show k + m + 1 - k = m + 1 by omega]
            have hsl : ((l.drop k).take (m + 1)).length = m + 1 := by rw [List.length_take, List.length_drop]; omega
            exact .inr ⟨b, off + k, cap - k, by rw [hsl]; rfl, by rw [hsl]; omega, (unhide HB).sub k (m + 1) (by omega)⟩
    · have hke : k = l.length := by omega
      have hT0 : ¬ ((k : Int) < (l.length : Int)) := by omega
      go_wp2
      go_ret
      refine ⟨⟨_, rfl, ?_⟩, Below.refl _ _⟩
      rw [exit_all l (fun j y hy => hsp.out j y (by rw [hke]; exact (List.getElem?_eq_some_iff.1 hy).1) hy)]
      exact .inl ⟨rfl, rfl⟩
end Go.Proofs.Qxb6602621aDoor
