/-
  WALKS of seat b6602621aD: strconv.ParseUint at base 16 and 64 bits.
-/
import Derived.Test.Qxb6602621aDoorW3
import Derived.Test.Qxb6602621aDoorSh
import Derived.Lib.Strings
import Derived.Lib.Walk
import Derived.Lib.ConvBytes
import Derived.Lib.AtoiAllMem
import Derived.Lib.Hide
import Derived.Laws.Strings3
import Derived.Laws.Closers25
import Derived.Laws.Closers25b
import Derived.BigCall
import Derived.BigGuard
namespace Go.Proofs.Qxb6602621aDoor
open Go.RowKit Go.Lib

/-- What the inner ParseUint hands back. -/
def resI : Option (Option Nat) → Value
  | none => .tuple #[.int .u64 0, .iface 47 (.int .i64 2)]
  | some none => .tuple #[.int .u64 18446744073709551615, .iface 47 (.int .i64 1)]
  | some (some u) => .tuple #[.int .u64 u, .nilIface]

set_option maxHeartbeats 400000 in
theorem lower_any (c : Int) (w : World) :
    Calls Tryd.prog 27 #[.int .u8 c] w fun e w' => e = .returned (.int .u8 (bits .or .u8 c 32)) ∧ w' = w := by
  go_enter Tryd.func27, Tryd.ntmps27
  go_wp2
  go_ret
  exact ⟨rfl, rfl⟩

set_option maxRecDepth 100000 in
theorem low_all : ∀ c : Fin 256, ¬ (48 ≤ c.val ∧ c.val ≤ 57) →
    (97 ≤ c.val ∧ c.val ≤ 102 ∧ bits .or .u8 ((c.val : Nat) : Int) 32 = (c.val : Int)) ∨ (65 ≤ c.val ∧ c.val ≤ 70 ∧ bits .or .u8 ((c.val : Nat) : Int) 32 = (c.val : Int) + 32) ∨
    (hexD c.val = none ∧ 0 ≤ bits .or .u8 ((c.val : Nat) : Int) 32 ∧ bits .or .u8 ((c.val : Nat) : Int) 32 < 256 ∧ ¬ (97 ≤ bits .or .u8 ((c.val : Nat) : Int) 32 ∧ bits .or .u8 ((c.val : Nat) : Int) 32 ≤ 102)) := by decide

set_option maxHeartbeats 4000000 in
set_option maxRecDepth 100000 in
theorem parse_inner (t : ByteArray) (hne : t.size ≠ 0) (hmax : t.size ≤ 9223372036854775806) (w : World) :
    Calls Tryd.prog 22 #[.string t, .int .i64 16, .int .i64 64] w fun e w' => e = .returned (resI (hexP 0 t.data.toList)) ∧ w' = Lib.bytesWorld w 5 t := by
  have hemp : t.toList.isEmpty = false := by
    rw [← decide_eq_emptyBytes]
    exact decide_eq_false (fun h => hne (by rw [h]; rfl))
  have hcv := Lib.run_convert_string_bytes (P := Tryd.prog) w 9 22 5 t (u := .string) Tryd.underlying9 Tryd.underlying22 Tryd.underlying5
  have hB : ∀ j, j < t.size → (Lib.bytesWorld w 5 t).cell? ⟨w.heap.size, j, none⟩ = some (.int .u8 (t.data.toList.getD j 0).toNat) := fun j hj => Lib.bytesWorld_cell w 5 t j hj
  obtain ⟨W1, hW1⟩ : ∃ W1, W1 = Lib.bytesWorld w 5 t := ⟨_, rfl⟩
  rw [← hW1] at hcv hB ⊢
  clear hW1
  obtain ⟨bs, hL⟩ : ∃ bs, bs = t.data.toList := ⟨_, rfl⟩
  have hLn : bs.length = t.size := by rw [hL, Lib.size_eq]
  rw [← hL] at hB ⊢
  clear hL
  have hmv : IntKind.u64.wrap (IntKind.u64.wrap 18446744073709551616 - 1) = 18446744073709551615 := by
    rw [IntKind.wrap_u64, IntKind.wrap_u64]
    decide
  go_enter Tryd.func22, Tryd.ntmps22
  go_wp2
  go_loop [12, 13, 101] (fun vu vn vi => ∃ (k acc : Nat) (a : Int), vu = .bool false ∧ vn = .int .u64 a ∧ vi = .int .i64 k ∧ k ≤ t.size ∧ Hid (a = (acc : Int) ∧ acc < 18446744073709551616 ∧ hexP 0 bs = hexP acc (bs.drop k)))
    (fun _ _ vi => t.size - (intOf vi).toNat)
  case atStart => exact ⟨0, 0, 0, rfl, rfl, rfl, by omega, rfl, by omega, rfl⟩
  case round =>
    obtain ⟨k, acc, a, rfl, rfl, rfl, hk, hh⟩ := hrel
    obtain ⟨ha, hacc, hdec⟩ := hh.out
    clear hh
    have a0 : 0 ≤ a := by omega
    have a1 : a < 18446744073709551616 := by omega
    by_cases hkn : k < t.size
    · have hc := hB k hkn
      have hdrop : bs.drop k = bs[k]'(by omega) :: bs.drop (k + 1) := List.drop_eq_getElem_cons (by omega)
      have hget : bs.getD k 0 = bs[k]'(by omega) := by simp [List.getD, List.getElem?_eq_getElem (show k < bs.length by omega)]
      rw [hdrop] at hdec
      rw [hget] at hc
      generalize bs[k]'(by omega) = c at hc hdec
      have hc256 : c.toNat < 256 := c.toNat_lt
      clear hB hdrop hget
      by_cases hdig : 48 ≤ c.toNat ∧ c.toNat ≤ 57
      · obtain ⟨hd0, hd1⟩ := hdig
        have hX : hexD c.toNat = some (c.toNat - 48) := by unfold hexD; rw [if_pos ⟨hd0, hd1⟩]
        by_cases hcut : 1152921504606846976 ≤ acc
        · have hF : hexP acc (c :: bs.drop (k + 1)) = some none := by rw [hexP, hX]; simp only [if_pos hcut]
          rw [hF] at hdec
          have icut : 1152921504606846976 ≤ a := by omega
          have HD := hide hdec
          clear hcut hacc hF ha hX hdec
          go_wp2
          go_ret2
          exact ⟨by rw [unhide HD]; rfl, rfl⟩
        · have hF : hexP acc (c :: bs.drop (k + 1)) = hexP (acc * 16 + (c.toNat - 48)) (bs.drop (k + 1)) := by rw [hexP, hX]; simp only [if_neg hcut]
          have HN : Hid (a * 16 + ((c.toNat : Int) - 48) = ((acc * 16 + (c.toNat - 48) : Nat) : Int) ∧ acc * 16 + (c.toNat - 48) < 18446744073709551616 ∧ hexP 0 bs = hexP (acc * 16 + (c.toNat - 48)) (bs.drop (k + 1))) := Lib.hid ⟨by omega, by omega, hdec.trans hF⟩
          have icut : a < 1152921504606846976 := by omega
          have iov : a * 16 + ((c.toNat : Int) - 48) < 18446744073709551616 := by omega
          clear hcut hacc hF hdec ha hX
          go_wp2
          refine ⟨⟨k + 1, acc * 16 + (c.toNat - 48), a * 16 + ((c.toNat : Int) - 48), rfl, (by first | rfl | (congr 1; omega)), (by first | rfl | (congr 1; omega)), by omega, HN⟩, by simp [intOf]; omega⟩
      · have hlow := low_all ⟨c.toNat, hc256⟩ hdig
        dsimp only at hlow
        rcases hlow with ⟨l1, l2, l3⟩ | ⟨l1, l2, l3⟩ | ⟨l1, l2, l3, l4⟩
        · have hX : hexD c.toNat = some (c.toNat - 87) := by unfold hexD; have l1 : 97 ≤ c.toNat := l1; have l2 : c.toNat ≤ 102 := l2; rw [if_neg (by omega), if_pos (by omega)]
          have l3' : bits .or .u8 (c.toNat : Int) 32 = (c.toNat : Int) := l3
          have n95 : ((c.toNat : Int) == 95) = false := beqf (by omega)
          by_cases hcut : 1152921504606846976 ≤ acc
          · have hF : hexP acc (c :: bs.drop (k + 1)) = some none := by rw [hexP, hX]; simp only [if_pos hcut]
            rw [hF] at hdec
            have icut : 1152921504606846976 ≤ a := by omega
            have HD := hide hdec
            clear hcut hacc hF ha hX hdec l3
            go_wp2_with (go_at_call 27; refine (lower_any _ _).mono ?_; rintro e w' ⟨rfl, rfl⟩)
            go_ret2
            exact ⟨by rw [unhide HD]; rfl, rfl⟩
          · have hF : hexP acc (c :: bs.drop (k + 1)) = hexP (acc * 16 + (c.toNat - 87)) (bs.drop (k + 1)) := by rw [hexP, hX]; simp only [if_neg hcut]
            have HN : Hid (a * 16 + ((c.toNat : Int) - 97 + 10) = ((acc * 16 + (c.toNat - 87) : Nat) : Int) ∧ acc * 16 + (c.toNat - 87) < 18446744073709551616 ∧ hexP 0 bs = hexP (acc * 16 + (c.toNat - 87)) (bs.drop (k + 1))) := Lib.hid ⟨by omega, by omega, hdec.trans hF⟩
            have icut : a < 1152921504606846976 := by omega
            have iov : a * 16 + ((c.toNat : Int) - 97 + 10) < 18446744073709551616 := by omega
            clear hcut hacc hF hdec ha hX l3
            go_wp2_with (go_at_call 27; refine (lower_any _ _).mono ?_; rintro e w' ⟨rfl, rfl⟩)
            refine ⟨⟨k + 1, acc * 16 + (c.toNat - 87), a * 16 + ((c.toNat : Int) - 97 + 10), rfl, (by first | rfl | (congr 1; omega)), (by first | rfl | (congr 1; omega)), by omega, HN⟩, by simp [intOf]; omega⟩
        · have hX : hexD c.toNat = some (c.toNat - 55) := by unfold hexD; have l1 : 65 ≤ c.toNat := l1; have l2 : c.toNat ≤ 70 := l2; rw [if_neg (by omega), if_neg (by omega), if_pos (by omega)]
          have l3' : bits .or .u8 (c.toNat : Int) 32 = (c.toNat : Int) + 32 := l3
          have n95 : ((c.toNat : Int) == 95) = false := beqf (by omega)
          by_cases hcut : 1152921504606846976 ≤ acc
          · have hF : hexP acc (c :: bs.drop (k + 1)) = some none := by rw [hexP, hX]; simp only [if_pos hcut]
            rw [hF] at hdec
            have icut : 1152921504606846976 ≤ a := by omega
            have HD := hide hdec
            clear hcut hacc hF ha hX hdec l3
            go_wp2_with (go_at_call 27; refine (lower_any _ _).mono ?_; rintro e w' ⟨rfl, rfl⟩)
            go_ret2
            exact ⟨by rw [unhide HD]; rfl, rfl⟩
          · have hF : hexP acc (c :: bs.drop (k + 1)) = hexP (acc * 16 + (c.toNat - 55)) (bs.drop (k + 1)) := by rw [hexP, hX]; simp only [if_neg hcut]
            have HN : Hid (a * 16 + ((c.toNat : Int) + 32 - 97 + 10) = ((acc * 16 + (c.toNat - 55) : Nat) : Int) ∧ acc * 16 + (c.toNat - 55) < 18446744073709551616 ∧ hexP 0 bs = hexP (acc * 16 + (c.toNat - 55)) (bs.drop (k + 1))) := Lib.hid ⟨by omega, by omega, hdec.trans hF⟩
            have icut : a < 1152921504606846976 := by omega
            have iov : a * 16 + ((c.toNat : Int) + 32 - 97 + 10) < 18446744073709551616 := by omega
            clear hcut hacc hF hdec ha hX l3
            go_wp2_with (go_at_call 27; refine (lower_any _ _).mono ?_; rintro e w' ⟨rfl, rfl⟩)
            refine ⟨⟨k + 1, acc * 16 + (c.toNat - 55), a * 16 + ((c.toNat : Int) + 32 - 97 + 10), rfl, (by first | rfl | (congr 1; omega)), (by first | rfl | (congr 1; omega)), by omega, HN⟩, by simp [intOf]; omega⟩
        · have hF : hexP acc (c :: bs.drop (k + 1)) = none := by rw [hexP, show hexD c.toNat = none from l1]
          rw [hF] at hdec
          have HD := hide hdec
          clear hacc hF ha hdec
          by_cases n95 : c.toNat = 95
          · have h127 : bits .or .u8 (95 : Int) 32 = 127 := by decide
            rw [n95] at hc
            clear l1 l2 l3 l4 hdig
            go_wp2_with (go_at_call 27; refine (lower_any _ _).mono ?_; rintro e w' ⟨rfl, rfl⟩)
            all_goals go_ret2
            all_goals exact ⟨by rw [unhide HD]; rfl, rfl⟩
          · have n95' : ((c.toNat : Int) == 95) = false := beqf (by omega)
            have hnd : (c.toNat : Int) < 48 ∨ 57 < (c.toNat : Int) := by omega
            generalize hLL : bits .or .u8 (c.toNat : Int) 32 = L at l2 l3 l4
            clear l1 hdig
            go_wp2_with (go_at_call 27; refine (lower_any _ _).mono ?_; rintro e w' ⟨rfl, rfl⟩)
            all_goals go_ret2
            all_goals exact ⟨by rw [unhide HD]; rfl, rfl⟩
    · have hkk : k = t.size := by omega
      subst hkk
      have hF : hexP acc (bs.drop t.size) = some (some acc) := by rw [List.drop_eq_nil_of_le (by omega)]; rfl
      rw [hF] at hdec
      subst ha
      clear hacc hF a0 a1
      go_wp2
      go_ret2
      exact ⟨rfl, rfl⟩
end Go.Proofs.Qxb6602621aDoor
