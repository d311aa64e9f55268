/-
  WALKS of seat b6000905aD: the bound on the lengths.
-/
import Derived.Test.Qxb6000905aDoorW17
set_option linter.unusedVariables false
namespace Go.Proofs.Qxb6000905aDoor
open Go.RowKit Go.Lib

def Smalls (ms : List Mdl) : Prop := ms.length ≤ 1048576 ∧ ∀ m ∈ ms, m.Sm ∧ m.2.1.2.2.length ≤ 1048576 ∧ m.2.2.2.2.length ≤ 1048576
def BEnd (ms : List Mdl) (e : Ending) : Prop := ∃ r : Bool, e = .returned (.bool r) ∧ (r = true → Smalls ms)
theorem BEnd.no (ms : List Mdl) : BEnd ms (.returned (.bool false)) := ⟨false, rfl, fun h => by cases h⟩
theorem small_step {ss : List ByteArray} {j : Nat} (h : ∀ t ∈ ss.take j, t.size ≤ 1048576) (hj : j < ss.length) (h2 : ss[j].size ≤ 1048576) : ∀ t ∈ ss.take (j + 1), t.size ≤ 1048576 := by
  intro t ht
  rw [List.take_succ_eq_append_getElem hj] at ht
  rcases List.mem_append.1 ht with h' | h'
  · exact h t h'
  · rw [List.mem_singleton] at h'; subst h'; exact h2
theorem smalls_step {ms : List Mdl} {P : Mdl → Prop} {i : Nat} (h : ∀ m ∈ ms.take i, P m) (hi : i < ms.length) (h2 : P ms[i]) : ∀ m ∈ ms.take (i + 1), P m := by
  intro t ht
  rw [List.take_succ_eq_append_getElem hi] at ht
  rcases List.mem_append.1 ht with h' | h'
  · exact h t h'
  · rw [List.mem_singleton] at h'; subst h'; exact h2

set_option maxHeartbeats 4000000 in
set_option maxRecDepth 100000 in
theorem bytes_any (p : Option Addr) (cap : Nat) (ms : List Mdl) (o1 : Bool) (w : World) (hn : ms.length ≤ maxLen) (hV : ViewM w p ms) : Calls Tryd.prog 6 #[.slice p ms.length cap, .bool o1] w fun e w' => BEnd ms e ∧ w' = w := by
  have HV := hide hV
  clear hV
  unfold maxLen at hn
  by_cases hbig : (1048576 : Int) < (ms.length : Int)
  · go_enter Tryd.func6, Tryd.ntmps6
    go_wp2
    go_ret
    exact ⟨BEnd.no _, rfl⟩
  have hsm : (ms.length : Int) ≤ 1048576 := by omega
  go_enter Tryd.func6, Tryd.ntmps6
  go_wp2
  go_loop [5, 6] (fun t x => ∃ (i : Nat) (z : Int), i ≤ ms.length ∧ x = .int .i64 i ∧ t = .int .i64 z ∧ 0 ≤ z ∧ z ≤ 1048576 ∧ Hid (∀ m ∈ ms.take i, m.Sm ∧ m.2.1.2.2.length ≤ 1048576 ∧ m.2.2.2.2.length ≤ 1048576)) (fun _ x => ms.length - (RowKit.intOf x).toNat)
  case atStart => exact ⟨0, ms.length, Nat.zero_le _, rfl, rfl, by omega, hsm, hide (fun m h => by cases h)⟩
  case round =>
    obtain ⟨i, z, hi, rfl, rfl, hz0, hz1, HZ⟩ := hrel
    by_cases hlt : i < ms.length
    · obtain ⟨b, o, rfl, hc⟩ := unhide HV (by omega)
      obtain ⟨c0, c1, c2, ok⟩ := hc i hlt
      clear hc
      have HP : Hid (ms[i].Sm ∧ ms[i].2.1.2.2.length ≤ 1048576 ∧ ms[i].2.2.2.2.length ≤ 1048576 → ∀ m ∈ ms.take (i + 1), m.Sm ∧ m.2.1.2.2.length ≤ 1048576 ∧ m.2.2.2.2.length ≤ 1048576) := hide fun h => smalls_step (unhide HZ) hlt h
      rcases hm : ms[i] with ⟨sc, ⟨np, nc, ns⟩, ⟨vp, vc, vs⟩⟩
      rw [hm] at c0 c1 c2 ok HP
      simp only [Sl.val] at c0 c1 c2
      have HN := hide ok.2.1.2.2.2
      have HW := hide ok.2.2.2.2.2
      have HN63 : ns.length ≤ 9223372036854775807 := ok.2.1.1
      have HV63 : vs.length ≤ 9223372036854775807 := ok.2.2.1
      have HS63 : sc.size ≤ 9223372036854775807 := ok.1
      clear hm ok
      generalize hSI : (sc.size : Nat) = m at *
      by_cases h1 : (1048576 : Int) < (m : Int)
      · go_wp2
        go_ret
        exact ⟨BEnd.no _, rfl⟩
      have h1' : (m : Int) ≤ 1048576 := by omega
      by_cases h2 : (1048576 : Int) < z + (m : Int)
      · go_wp2
        go_ret
        exact ⟨BEnd.no _, rfl⟩
      have h2' : z + (m : Int) ≤ 1048576 := by omega
      by_cases h3 : (1048576 : Int) < (ns.length : Int)
      · go_wp2
        go_ret
        exact ⟨BEnd.no _, rfl⟩
      have h3' : (ns.length : Int) ≤ 1048576 := by omega
      by_cases h4 : (1048576 : Int) < z + (m : Int) + (ns.length : Int)
      · go_wp2
        go_ret
        exact ⟨BEnd.no _, rfl⟩
      have h4' : z + (m : Int) + (ns.length : Int) ≤ 1048576 := by omega
      have h40 : 0 ≤ z + (m : Int) + (ns.length : Int) := by omega
      go_wp2
      clear h1 h2 h3 h4
      go_loop [5, 7] (fun t x => ∃ (j : Nat) (y : Int), j ≤ ns.length ∧ x = .int .i64 j ∧ t = .int .i64 y ∧ 0 ≤ y ∧ y ≤ 1048576 ∧ Hid (∀ u ∈ ns.take j, u.size ≤ 1048576)) (fun _ x => ns.length - (RowKit.intOf x).toNat)
      case atStart => exact ⟨0, _, Nat.zero_le _, rfl, rfl, h40, h4', hide (fun m h => by cases h)⟩
      case round =>
        obtain ⟨j, y, hj, rfl, rfl, hy0, hy1, HY⟩ := hrel
        by_cases hjl : j < ns.length
        · obtain ⟨bn, on, rfl, hcn⟩ := unhide HN (by omega)
          have hcj := hcn j hjl
          clear hcn
          have HST := hide (fun h => small_step (unhide HY) hjl h)
          generalize hq : ns[j] = q at *
          clear hq
          generalize hQI : (q.size : Nat) = k at *
          have hk0 : (0 : Int) ≤ (k : Int) := by omega
          by_cases h5 : (1048576 : Int) < (k : Int)
          · go_wp2
            go_ret
            exact ⟨BEnd.no _, rfl⟩
          have h5' : (k : Int) ≤ 1048576 := by omega
          by_cases h6 : (1048576 : Int) < y + (k : Int)
          · go_wp2
            go_ret
            exact ⟨BEnd.no _, rfl⟩
          have h6' : y + (k : Int) ≤ 1048576 := by omega
          go_wp2
          go_round
          case rel => exact ⟨j + 1, y + (k : Int), hjl, by go_num, rfl, by omega, h6', hide (unhide HST (by omega))⟩
          case measure => simp [RowKit.intOf]; omega
        · have HNS : Hid (∀ u ∈ ns, u.size ≤ 1048576) := by
            have := unhide HY
            rw [List.take_of_length_le (by omega)] at this
            exact hide this
          clear HY
          by_cases h7 : (1048576 : Int) < (vs.length : Int)
          · go_wp2
            go_ret
            exact ⟨BEnd.no _, rfl⟩
          have h7' : (vs.length : Int) ≤ 1048576 := by omega
          by_cases h8 : (1048576 : Int) < y + (vs.length : Int)
          · go_wp2
            go_ret
            exact ⟨BEnd.no _, rfl⟩
          have h8' : y + (vs.length : Int) ≤ 1048576 := by omega
          have h80 : 0 ≤ y + (vs.length : Int) := by omega
          go_wp2
          clear h7 h8
          go_loop [5, 8] (fun t x => ∃ (j : Nat) (y : Int), j ≤ vs.length ∧ x = .int .i64 j ∧ t = .int .i64 y ∧ 0 ≤ y ∧ y ≤ 1048576 ∧ Hid (∀ u ∈ vs.take j, u.size ≤ 1048576)) (fun _ x => vs.length - (RowKit.intOf x).toNat)
          case atStart => exact ⟨0, _, Nat.zero_le _, rfl, rfl, h80, h8', hide (fun m h => by cases h)⟩
          case round =>
            obtain ⟨j2, y2, hj2, rfl, rfl, hy20, hy21, HY2⟩ := hrel
            by_cases hjl2 : j2 < vs.length
            · obtain ⟨bv, ov, rfl, hcv⟩ := unhide HW (by omega)
              have hcj := hcv j2 hjl2
              clear hcv
              have HST := hide (fun h => small_step (unhide HY2) hjl2 h)
              generalize hq : vs[j2] = q at *
              clear hq
              generalize hQI : (q.size : Nat) = k at *
              have hk0 : (0 : Int) ≤ (k : Int) := by omega
              by_cases h5 : (1048576 : Int) < (k : Int)
              · go_wp2
                go_ret
                exact ⟨BEnd.no _, rfl⟩
              have h5' : (k : Int) ≤ 1048576 := by omega
              by_cases h6 : (1048576 : Int) < y2 + (k : Int)
              · go_wp2
                go_ret
                exact ⟨BEnd.no _, rfl⟩
              have h6' : y2 + (k : Int) ≤ 1048576 := by omega
              go_wp2
              go_round
              case rel => exact ⟨j2 + 1, y2 + (k : Int), hjl2, by go_num, rfl, by omega, h6', hide (unhide HST (by omega))⟩
              case measure => simp [RowKit.intOf]; omega
            · have HVS : Hid (∀ u ∈ vs, u.size ≤ 1048576) := by
                have := unhide HY2
                rw [List.take_of_length_le (by omega)] at this
                exact hide this
              clear HY2
              go_wp2
              go_round
              case rel => exact ⟨i + 1, y2, hlt, by go_num, rfl, hy20, hy21, hide (unhide HP ⟨⟨show sc.size ≤ _ by omega, unhide HNS, unhide HVS⟩, show ns.length ≤ _ by omega, show vs.length ≤ _ by omega⟩)⟩
              case measure => simp [RowKit.intOf]; omega
    · go_wp2
      go_ret
      have e : ms.take i = ms := List.take_of_length_le (by omega)
      refine ⟨⟨true, rfl, fun _ => ⟨by omega, ?_⟩⟩, rfl⟩
      have := unhide HZ
      rw [e] at this
      exact this
end Go.Proofs.Qxb6000905aDoor
