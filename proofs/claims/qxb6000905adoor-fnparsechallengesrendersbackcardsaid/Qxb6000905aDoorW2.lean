/-
  WALKS of seat b6000905aD: strings.TrimLeft at two or more ASCII bytes.
-/
import Derived.Test.Qxb6000905aDoorW1
import Derived.Shelf.Strings.IndexAnyAll
set_option linter.unusedVariables false
namespace Go.Proofs.Qxb6000905aDoor
open Go.RowKit Go.Lib Go.Shelf

theorem info57 : (Tryd.prog.info? 57).map (fun i => (i.zero, i.size)) = some (some (.agg (Array.replicate 256 (.bool false))), 256) := by kernel_rfl

theorem zero57 : Tryd.zeroCells57 = Array.replicate 256 (.bool false) := by kernel_rfl
theorem list0 (t : ByteArray) : t.data.toList = sfx t 0 := rfl
theorem ext_one (t : ByteArray) : (t.extract 1 t.size).data.toList = sfx t 1 ∧ (t.extract 1 t.size).size = t.size - 1 := by
  constructor
  · rw [ByteArray.data_extract, Array.toList_extract]
    unfold sfx
    have h : t.data.toList.length = t.size := by simp
    show (t.data.toList.drop 1).take (t.size - 1) = _
    rw [List.take_of_length_le (by rw [List.length_drop, h]; exact Nat.le_refl _)]
  · simp
theorem ret_str {t : ByteArray} {l : List UInt8} (h : l = t.data.toList) : Ending.returned (.string t) = .returned (.string ⟨l.toArray⟩) := by
  subst h; rfl
def strLen : Value → Nat | .string t => t.size | _ => 0
set_option maxHeartbeats 1000000 in
set_option maxRecDepth 100000 in
/-- strings.trimLeftASCII. -/
theorem trimASCII_any (s : ByteArray) (b : Nat) (p : UInt8 → Bool) (w : World) (hc : ∀ x : UInt8, w.cell? ⟨b, x.toNat, none⟩ = some (.bool (p x))) (hz : s.size ≤ 1099511627776) :
    Calls Tryd.prog 30 #[.string s, .pointer (some ⟨b, 0, none⟩)] w fun e w' => e = .returned (.string ⟨(s.data.toList.dropWhile p).toArray⟩) ∧ w' = w := by
  have HC := hide hc
  clear hc
  go_enter Tryd.func30, Tryd.ntmps30
  go_wp2
  go_loop [0] (fun v => ∃ t : ByteArray, v = .string t ∧ t.size ≤ s.size ∧ Hid (s.data.toList.dropWhile p = t.data.toList.dropWhile p)) (fun v => strLen v)
  case atStart => exact ⟨s, rfl, Nat.le_refl _, hide rfl⟩
  case round =>
    obtain ⟨t, rfl, htz, HD⟩ := hrel
    by_cases hlt : 0 < t.size
    · have hcx := unhide HC t[0]
      have HT := hide (sfx_cons t 0 hlt)
      have hti : (0 : Int) < (t.size : Int) := by omega
      cases hin : p t[0] with
      | true =>
        rw [hin] at hcx
        have HIN := hide hin
        clear hin
        have HQ := hide (Tryd.asciiSet_contains b t[0] true w hcx)
        go_wp2_with fail
        refine (unhide HQ).mono ?_
        rintro e w' ⟨rfl, hw⟩
        have hw2 := hw.symm; subst hw2
        go_wp2
        go_round
        case rel =>
          refine ⟨t.extract 1 t.size, rfl, ?_, hide ?_⟩
          · rw [(ext_one t).2]; omega
          · rw [unhide HD, (ext_one t).1, list0 t, unhide HT, List.dropWhile_cons, if_pos (unhide HIN)]
        case measure =>
          show (t.extract 1 t.size).size < t.size
          rw [(ext_one t).2]; omega
      | false =>
        rw [hin] at hcx
        have HIN := hide hin
        clear hin
        have HQ := hide (Tryd.asciiSet_contains b t[0] false w hcx)
        go_wp2_with fail
        refine (unhide HQ).mono ?_
        rintro e w' ⟨rfl, hw⟩
        have hw2 := hw.symm; subst hw2
        go_wp2
        go_ret
        refine ⟨ret_str ?_, rfl⟩
        rw [unhide HD, list0 t, unhide HT, List.dropWhile_cons, if_neg (by rw [unhide HIN]; simp)]
    · go_wp2
      go_ret
      refine ⟨ret_str ?_, rfl⟩
      rw [unhide HD, list0 t, sfx_end t 0 (by omega)]; rfl

set_option maxHeartbeats 2000000 in
set_option maxRecDepth 100000 in
/-- strings.TrimLeft. -/
theorem trimLeft_any (s chars : ByteArray) (p : UInt8 → Bool) (w : World) (hp : ∀ x, chars.data.toList.contains x = p x) (h2 : 2 ≤ chars.size) (h8 : chars.size ≤ 8) (ha : ∀ (j : Nat) b, chars.data.toList[j]? = some b → b.toNat < 128) (hz : s.size ≤ 1099511627776) :
    Calls Tryd.prog 23 #[.string s, .string chars] w fun e w' => e = .returned (.string ⟨(s.data.toList.dropWhile p).toArray⟩) ∧ Below w.heap.size w w' := by
  by_cases h0 : s.data.toList = []
  · have he : s.toList.isEmpty = true := by rw [ByteArray.toList_eq, h0]; rfl
    have HX := hide (show s.data.toList.dropWhile p = s.data.toList by rw [h0]; rfl)
    clear h0 ha hp
    go_enter Tryd.func23, Tryd.ntmps23
    go_wp2
    go_ret
    exact ⟨ret_str (unhide HX), Below.refl _ _⟩
  · have he : s.toList.isEmpty = false := by rw [ByteArray.toList_eq]; simpa using h0
    have hemp : chars.toList.isEmpty = false := by
      rw [ByteArray.toList_eq]
      cases h : chars.data.toList with
      | nil => have := Lib.size_eq chars; rw [h, List.length_nil] at this; omega
      | cons _ _ => rfl
    have hn1 : ((chars.size : Int) == 1) = false := beq_eq_false_iff_ne.2 (by omega)
    have hM := Tryd.strings_makeASCIISet (zero_of_info info57).1 chars w (by omega) ha
    have hsc : (storeCells ⟨w.heap.size + 1, 0, none⟩ (Lib.setCells chars.data.toList).toList 0).run Tryd.prog ((w.alloc (.cells (Lib.setCells chars.data.toList) 57)).alloc (.cells Tryd.zeroCells57 57)) = .ok () ((w.alloc (.cells (Lib.setCells chars.data.toList) 57)).alloc (.cells (Lib.setCells chars.data.toList) 57)) := by
      have := run_storeCells_new (P := Tryd.prog) (w.alloc (.cells (Lib.setCells chars.data.toList) 57)) 57 (Array.replicate 256 (.bool false)) (Lib.setCells chars.data.toList) (by rw [Lib.setCells_size]; exact (zero_of_info info57).2) (by rw [Lib.setCells_size, Array.size_replicate]) (Lib.setCells_one _)
      rw [zero57]
      simpa using this
    have hsz := Lib.setCells_size chars.data.toList
    have HC : Hid (∀ x : UInt8, ((w.alloc (.cells (Lib.setCells chars.data.toList) 57)).alloc (.cells (Lib.setCells chars.data.toList) 57)).cell? ⟨w.heap.size + 1, x.toNat, none⟩ = some (.bool (p x))) := hide fun x => by
      rw [World.cell?_alloc_at _ _ _ _ (by simp), Lib.setCells_at, hp]
    have HT := hide (trimASCII_any s (w.heap.size + 1) p _ (unhide HC) hz)
    clear h0 ha hp
    go_enter Tryd.func23, Tryd.ntmps23
    go_wp2_with (go_at_call 29; refine hM.mono ?_; rintro e w' ⟨rfl, hw⟩; rw [hw])
    clear hM hsc
    go_wp2_with fail
    refine (unhide HT).mono ?_
    rintro e w' ⟨rfl, hw⟩
    have hw2 := hw.symm; subst hw2
    go_wp2
    go_ret
    exact ⟨rfl, ((Below.refl _ _).alloc (Nat.le_refl _) _).alloc (by simp) _⟩
end Go.Proofs.Qxb6000905aDoor
