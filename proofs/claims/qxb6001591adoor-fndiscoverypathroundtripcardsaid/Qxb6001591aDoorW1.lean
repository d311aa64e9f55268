/-
  WALKS of seat b6001591aD: zzIsSegment, pathSegments.
-/
import Derived.Test.Qxb6001591aDoorPlain
import Derived.Test.Qxb6001591aDoorSh
import Derived.Test.Qxb6001591aDoorChecked
import Derived.WalkKit
import Derived.Deep.Light
import Derived.WalkSpells
import Derived.WalkLawsBesides
import Derived.Deep.QuietTactic
import Derived.BigQuiet
import Derived.Deep.RegionHeld3
import Derived.Lib.SliceRun
set_option linter.unusedVariables false
namespace Go.Proofs.Qxb6001591aDoor
open Go.RowKit Go.Lib

theorem hide {p : Prop} (h : p) : Hid p := h
theorem unhide {p : Prop} (h : Hid p) : p := h.out
theorem beqf {a b : Int} (h : a ≠ b) : (a == b) = false := by simpa using h
def sfx (s : ByteArray) (i : Nat) : List UInt8 := s.data.toList.drop i
theorem sfx_cons (s : ByteArray) (i : Nat) (h : i < s.size) : sfx s i = s[i] :: sfx s (i + 1) := by
  unfold sfx
  rw [List.drop_eq_getElem_cons (by simpa using h)]
  rfl
theorem sfx_end (s : ByteArray) (i : Nat) (h : s.size ≤ i) : sfx s i = [] := by
  unfold sfx
  exact List.drop_eq_nil_of_le (by simpa using h)
/-- zzIsSegment, in plain words. -/
def segB (l : List UInt8) : Bool := !l.isEmpty && l.all (· != 47)
theorem segB_iff (l : List UInt8) : segB l = true ↔ Seg l := by
  unfold segB Seg
  rw [Bool.and_eq_true, List.all_eq_true]
  cases l <;> simp

theorem isSeg_any (s : ByteArray) (w : World) (hs : s.size ≤ 1099511627776) : Calls Tryd.prog 15 #[.string s] w fun e w' => e = .returned (.bool (segB s.data.toList)) ∧ w' = w := by
  cases he : s.toList.isEmpty with
  | true =>
    have HR : Hid (segB s.data.toList = false) := hide (by rw [ByteArray.toList_eq] at he; unfold segB; rw [he]; rfl)
    rw [unhide HR]
    go_enter Tryd.func15, Tryd.ntmps15
    go_wp2
    go_ret
    exact ⟨rfl, rfl⟩
  | false =>
    have HR : Hid (segB s.data.toList = s.data.toList.all (· != 47)) := hide (by rw [ByteArray.toList_eq] at he; unfold segB; rw [he]; rfl)
    rw [unhide HR]
    generalize hG : s.data.toList.all (· != 47) = r at *
    have HG := hide hG
    clear hG
    go_enter Tryd.func15, Tryd.ntmps15
    go_wp2
    go_loop [3] (fun x => ∃ i : Nat, i ≤ s.size ∧ x = .int .i64 i ∧ Hid (r = (sfx s i).all (· != 47))) (fun x => s.size - (RowKit.intOf x).toNat)
    case atStart => exact ⟨0, Nat.zero_le _, rfl, hide (unhide HG).symm⟩
    case round =>
      obtain ⟨i, hi, rfl, HA⟩ := hrel
      by_cases hlt : i < s.size
      · have h0i : (i : Int) < (s.size : Int) := by omega
        have HS := hide (sfx_cons s i hlt)
        by_cases hq : s[i] = 47
        · have hqb : ((s[i].toNat : Int) == 47) = true := by rw [hq]; rfl
          have HF : Hid (r = false) := hide (by rw [unhide HA, unhide HS, hq]; rfl)
          clear hq
          go_wp2
          go_ret
          exact ⟨by rw [unhide HF]; rfl, rfl⟩
        · have hqb : ((s[i].toNat : Int) == 47) = false := beqf (fun h => hq (UInt8.toNat_inj.1 (Int.ofNat.inj h)))
          have HF : Hid (r = (sfx s (i + 1)).all (· != 47)) := hide (by
            rw [unhide HA, unhide HS, List.all_cons]
            have : (s[i] != 47) = true := by simpa using hq
            rw [this]; rfl)
          clear hq
          go_wp2
          go_round
          case rel => exact ⟨i + 1, hlt, by go_num, HF⟩
          case measure => simp [RowKit.intOf]; omega
      · have HF : Hid (r = true) := hide (by rw [unhide HA, sfx_end s i (by omega)]; rfl)
        go_wp2
        go_ret
        exact ⟨by rw [unhide HF]; rfl, rfl⟩

theorem new_cells (w : World) (zs : List ByteArray) : ∀ j, j < zs.length → (w.alloc (.cells (zs.map Value.string).toArray 9)).cell? ⟨w.heap.size, 0 + j, none⟩ = some (.string (zs.getD j ByteArray.empty)) := by
  intro j hj
  have := heap_alloc_new w (.cells (zs.map Value.string).toArray 9)
  unfold World.cell?
  rw [this, Nat.zero_add]
  simp [hj]
theorem no_empty (a : List UInt8) (r : List (List UInt8)) (h : ∀ x ∈ a :: r, Seg x) : containsS (((a :: r).map bstr).take (r.length + 1)) ⟨#[]⟩ = false := by
  rw [List.take_of_length_le (by simp)]
  cases hc : containsS ((a :: r).map bstr) ⟨#[]⟩ with
  | false => rfl
  | true =>
    obtain ⟨x, hx, e⟩ := List.mem_map.1 ((containsS_iff _ _).1 hc)
    have e2 : x = [] := congrArg (fun b : ByteArray => b.data.toList) e
    exact absurd e2 (h x hx).1
/-- The segments in memory. -/
def SegsAt (w : World) (g : Nat) (zs : List (List UInt8)) : Prop := ∀ (j : Nat) (h : j < zs.length), w.cell? ⟨g, j, none⟩ = some (.string (bstr zs[j]))
set_option maxHeartbeats 1000000 in
theorem segs_any (a : List UInt8) (r : List (List UInt8)) (m : Int) (w : World) (h : ∀ x ∈ a :: r, Seg x) (hs : (jn (a :: r)).length ≤ 1000000000) (hr : r.length ≤ 1000) (hm : w.cell? ⟨0, 0, none⟩ = some (.int .i64 m)) :
    Calls Tryd.prog 17 #[.string (bstr (47 :: jn (a :: r)))] w fun e w' => (∃ g c, e = .returned (.tuple #[.slice (some ⟨g, 0, none⟩) (r.length + 1) c, .bool true]) ∧ SegsAt w' g (a :: r)) ∧ Below w.heap.size w w' := by
  have HT := hide (trim_jn a r h)
  have HNO : ∀ x ∈ a :: r, ∀ c ∈ x, c ≠ 47 := fun x hx => (h x hx).2
  have HSP := hide (splitB_jn a r HNO)
  have HCT := hide (countB_jn a r HNO)
  have HNE := hide (no_empty a r h)
  have HM := hide hm
  have HC1 := hide (Tryd.strings_Trim_one (bstr (47 :: jn (a :: r))) 47 (by decide) w (by rw [bstr_size, List.length_cons]; omega))
  have HE : Hid ((⟨(Lib.trimB (bstr (47 :: jn (a :: r))).data.toList 47).toArray⟩ : ByteArray) = bstr (jn (a :: r))) := hide (by
    show bstr (Lib.trimB (47 :: jn (a :: r)) 47) = _
    rw [unhide HT])
  have HZ := hide (bstr_size (jn (a :: r)))
  have HCZ : Hid (∀ W : World, SegsAt (W.alloc (.cells (((a :: r).map bstr).map Value.string).toArray 9)) W.heap.size (a :: r)) := hide fun W j hj => by
    have := new_cells W ((a :: r).map bstr) j (by simpa using hj)
    rw [Nat.zero_add, List.getD_eq_getElem?_getD, List.getElem?_map, List.getElem?_eq_getElem hj] at this
    exact this
  have HLN : Hid (((a :: r).map bstr).length = r.length + 1) := hide (by simp)
  have hl : (jn (a :: r)).length ≤ 1000000000 := hs
  clear h HNO hm hs
  generalize hZZ : (a :: r).map bstr = zs at *
  generalize hJ : jn (a :: r) = J at *
  clear hZZ hJ
  go_enter Tryd.func17, Tryd.ntmps17
  go_wp2_with fail
  refine (unhide HC1).mono ?_
  rintro e w1 ⟨rfl, hw1⟩
  rw [unhide HE]
  have HW : Hid (w1.cell? ⟨0, 0, none⟩ = some (.int .i64 m) ∧ Below w.heap.size w w1) := by
    rcases hw1 with rfl | rfl
    · exact hide ⟨unhide HM, Below.refl _ _⟩
    · exact hide ⟨unhide HM, (Below.refl _ _).drew⟩
  clear hw1 HC1 HM
  have HC2 := hide (Tryd.strings_Split (bstr J) ⟨#[47]⟩ m w1 (by rw [unhide HZ]; omega) (unhide HW).1 (by decide))
  rw [unhide HCT, unhide HSP] at HC2
  go_wp2_with fail
  refine (unhide HC2).mono ?_
  rintro e w2 ⟨rfl, hw2⟩
  have HC3 := hide (Tryd.slices_Contains_string w1.heap.size 0 (r.length + 1) (r.length + 1) zs ⟨#[]⟩ w2 (by rw [unhide HLN]; exact Nat.le_refl _) (by omega) (by rw [hw2]; exact new_cells w1 zs))
  have HS2 : Hid (SegsAt w2 w1.heap.size (a :: r)) := by rw [hw2]; exact hide (unhide HCZ w1)
  have HB2 : Hid (Below w.heap.size w w2) := by rw [hw2]; exact hide ((unhide HW).2.alloc (unhide HW).2.size _)
  clear hw2 HC2
  rw [unhide HNE] at HC3
  go_wp2_with fail
  refine (unhide HC3).mono ?_
  rintro e w3 ⟨rfl, hw⟩
  have hw3 := hw.symm; subst hw3
  clear hw HC3
  go_wp2
  go_ret2
  exact ⟨⟨_, _, rfl, unhide HS2⟩, unhide HB2⟩
end Go.Proofs.Qxb6001591aDoor
