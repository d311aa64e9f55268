/-
  WALKS of seat b6000905aD: stringsBytes, modelBytes.
-/
import Derived.Test.Qxb6000905aDoorW12
import Derived.Test.Qxb6000905aDoorW7
set_option linter.unusedVariables false
namespace Go.Proofs.Qxb6000905aDoor
open Go.RowKit Go.Lib

/-- The bytes of a slice of strings, sixteen a header. -/
def sB : List ByteArray → Nat
  | [] => 0
  | t :: r => t.size + 16 + sB r
theorem sB_append : ∀ (a b : List ByteArray), sB (a ++ b) = sB a + sB b
  | [], b => by simp [sB]
  | t :: r, b => by simp only [List.cons_append, sB, sB_append r b]; omega
theorem sB_take (ss : List ByteArray) (i : Nat) (h : i < ss.length) : sB (ss.take (i + 1)) = sB (ss.take i) + (ss[i].size + 16) := by
  rw [List.take_succ_eq_append_getElem h, sB_append]; simp [sB]
/-- What stringsBytes answers. -/
def SBEnd (ss : List ByteArray) (e : Ending) : Prop := ∃ r : Int, e = .returned (.int .i64 r) ∧ 0 ≤ r ∧ r ≤ 4194304 ∧ (r ≤ 1048576 → r = sB ss)

theorem strsBytes_any (p : Option Addr) (cap : Nat) (ss : List ByteArray) (w : World) (hn : ss.length ≤ maxLen) (hz : ∀ t ∈ ss, t.size ≤ 1048576) (hV : ViewS w p ss) : Calls Tryd.prog 15 #[.slice p ss.length cap] w fun e w' => SBEnd ss e ∧ w' = w := by
  have HV := hide hV
  have HS := hide hz
  clear hV hz
  unfold maxLen at hn
  go_enter Tryd.func15, Tryd.ntmps15
  go_wp2
  go_loop [3, 4] (fun t x => ∃ (i : Nat) (z : Int), i ≤ ss.length ∧ x = .int .i64 i ∧ t = .int .i64 z ∧ 0 ≤ z ∧ z ≤ 1048576 ∧ Hid (z = sB (ss.take i))) (fun _ x => ss.length - (RowKit.intOf x).toNat)
  case atStart => exact ⟨0, 0, Nat.zero_le _, rfl, rfl, by omega, by omega, hide rfl⟩
  case round =>
    obtain ⟨i, z, hi, rfl, rfl, hz0, hz1, HZ⟩ := hrel
    by_cases hlt : i < ss.length
    · obtain ⟨b, o, rfl, hc⟩ := unhide HV (by omega)
      have hci := hc i hlt
      clear hc
      have HT := hide (sB_take ss i hlt)
      have hsz : ss[i].size ≤ 1048576 := unhide HS _ (List.getElem_mem hlt)
      generalize hSI : (ss[i].size : Nat) = m at *
      by_cases h2 : (1048576 : Int) < z + (16 + (m : Int))
      · go_wp2
        go_ret
        exact ⟨⟨_, rfl, by omega, by omega, fun h => by omega⟩, rfl⟩
      · have h2' : z + (16 + (m : Int)) ≤ 1048576 := by omega
        go_wp2
        go_round
        case rel => exact ⟨i + 1, z + (16 + (m : Int)), hlt, by go_num, rfl, by omega, h2', hide (by rw [unhide HZ, unhide HT]; omega)⟩
        case measure => simp [RowKit.intOf]; omega
    · go_wp2
      go_ret
      have e : ss.take i = ss := List.take_of_length_le (by omega)
      refine ⟨⟨z, rfl, hz0, by omega, fun _ => ?_⟩, rfl⟩
      rw [unhide HZ, e]

/-- A slice of strings: its address, its capacity, its strings. -/
abbrev Sl := Option Addr × Nat × List ByteArray
/-- A challenge as a client writes it. -/
abbrev Mdl := ByteArray × Sl × Sl
def Sl.val (s : Sl) : Value := .slice s.1 s.2.2.length s.2.1
/-- The slice lies in w. -/
def Sl.Ok (w : World) (s : Sl) : Prop := s.2.2.length ≤ maxLen ∧ (s.1 = none → s.2.1 = 0) ∧ (∀ t ∈ s.2.2, t.size ≤ maxLen) ∧ ViewS w s.1 s.2.2
def Mdl.Ok (w : World) (m : Mdl) : Prop := m.1.size ≤ maxLen ∧ m.2.1.Ok w ∧ m.2.2.Ok w
def Mdl.sz (m : Mdl) : Nat := 64 + m.1.size + sB m.2.1.2.2 + sB m.2.2.2.2
def mB : List Mdl → Nat
  | [] => 0
  | m :: r => m.sz + mB r
theorem mB_append : ∀ (a b : List Mdl), mB (a ++ b) = mB a + mB b
  | [], b => by simp [mB]
  | t :: r, b => by simp only [List.cons_append, mB, mB_append r b]; omega
theorem mB_take (ss : List Mdl) (i : Nat) (h : i < ss.length) : mB (ss.take (i + 1)) = mB (ss.take i) + ss[i].sz := by
  rw [List.take_succ_eq_append_getElem h, mB_append]; simp [mB]
/-- All strings are short. -/
def Mdl.Sm (m : Mdl) : Prop := m.1.size ≤ 1048576 ∧ (∀ t ∈ m.2.1.2.2, t.size ≤ 1048576) ∧ (∀ t ∈ m.2.2.2.2, t.size ≤ 1048576)
/-- A slice of models. -/
def ViewM (w : World) (p : Option Addr) (ms : List Mdl) : Prop := 0 < ms.length → ∃ b o, p = some ⟨b, o, none⟩ ∧ ∀ (j : Nat) (h : j < ms.length),
  w.cell? ⟨b, o + j * 3, none⟩ = some (.string ms[j].1) ∧ w.cell? ⟨b, o + j * 3 + 1, none⟩ = some ms[j].2.1.val ∧ w.cell? ⟨b, o + j * 3 + 2, none⟩ = some ms[j].2.2.val ∧ ms[j].Ok w

set_option maxHeartbeats 1000000 in
theorem modelBytes_any (p : Option Addr) (cap : Nat) (ms : List Mdl) (w : World) (hn : ms.length ≤ maxLen) (hV : ViewM w p ms) (hS : ∀ m ∈ ms, m.Sm) : Calls Tryd.prog 7 #[.slice p ms.length cap] w fun e w' => (∃ r : Int, e = .returned (.int .i64 r) ∧ (r ≤ 1048576 → r = mB ms)) ∧ w' = w := by
  have HV := hide hV
  have HS := hide hS
  clear hV hS
  unfold maxLen at hn
  go_enter Tryd.func7, Tryd.ntmps7
  go_wp2
  go_loop [3, 4] (fun t x => ∃ (i : Nat) (z : Int), i ≤ ms.length ∧ x = .int .i64 i ∧ t = .int .i64 z ∧ 0 ≤ z ∧ z ≤ 1048576 ∧ Hid (z = mB (ms.take i))) (fun _ x => ms.length - (RowKit.intOf x).toNat)
  case atStart => exact ⟨0, 0, Nat.zero_le _, rfl, rfl, by omega, by omega, hide rfl⟩
  case round =>
    obtain ⟨i, z, hi, rfl, rfl, hz0, hz1, HZ⟩ := hrel
    by_cases hlt : i < ms.length
    · obtain ⟨b, o, rfl, hc⟩ := unhide HV (by omega)
      obtain ⟨c0, c1, c2, ok⟩ := hc i hlt
      clear hc
      have HT := hide (mB_take ms i hlt)
      have sm := unhide HS _ (List.getElem_mem hlt)
      rcases hm : ms[i] with ⟨sc, ⟨np, nc, ns⟩, ⟨vp, vc, vs⟩⟩
      rw [hm] at c0 c1 c2 ok HT sm
      simp only [Sl.val] at c0 c1 c2
      have hsz : sc.size ≤ 1048576 := sm.1
      have HC1 := hide (strsBytes_any np nc ns w ok.2.1.1 sm.2.1 ok.2.1.2.2.2)
      have HC2 := hide (strsBytes_any vp vc vs w ok.2.2.1 sm.2.2 ok.2.2.2.2.2)
      clear hm ok sm
      generalize hSI : (sc.size : Nat) = m at *
      by_cases h1 : (1048576 : Int) < z + (64 + (m : Int))
      · go_wp2
        go_ret
        exact ⟨⟨_, rfl, fun h => by omega⟩, rfl⟩
      have h1' : z + (64 + (m : Int)) ≤ 1048576 := by omega
      go_wp2_with fail
      refine (unhide HC1).mono ?_
      rintro e w1 ⟨⟨r1, rfl, hr0, hr1, HR1⟩, hw⟩
      replace HR1 := hide HR1
      have hw2 := hw.symm; subst hw2
      clear hw HC1
      by_cases h2 : (1048576 : Int) < z + (64 + (m : Int)) + r1
      · go_wp2
        go_ret
        exact ⟨⟨_, rfl, fun h => by omega⟩, rfl⟩
      have h2' : z + (64 + (m : Int)) + r1 ≤ 1048576 := by omega
      go_wp2_with fail
      refine (unhide HC2).mono ?_
      rintro e w1 ⟨⟨r2, rfl, hs0, hs1, HR2⟩, hw⟩
      replace HR2 := hide HR2
      have hw2 := hw.symm; subst hw2
      clear hw HC2
      by_cases h3 : (1048576 : Int) < z + (64 + (m : Int)) + r1 + r2
      · go_wp2
        go_ret
        exact ⟨⟨_, rfl, fun h => by omega⟩, rfl⟩
      have h3' : z + (64 + (m : Int)) + r1 + r2 ≤ 1048576 := by omega
      go_wp2
      go_round
      case rel =>
        refine ⟨i + 1, z + (64 + (m : Int)) + r1 + r2, hlt, by go_num, rfl, by omega, h3', hide ?_⟩
        rw [unhide HT, Int.natCast_add, ← unhide HZ]
        unfold Mdl.sz
        have q1 := unhide HR1 (by omega)
        have q2 := unhide HR2 (by omega)
        simp only []
        omega
      case measure => simp [RowKit.intOf]; omega
    · go_wp2
      go_ret
      have e : ms.take i = ms := List.take_of_length_le (by omega)
      refine ⟨⟨z, rfl, fun _ => ?_⟩, rfl⟩
      rw [unhide HZ, e]
end Go.Proofs.Qxb6000905aDoor
