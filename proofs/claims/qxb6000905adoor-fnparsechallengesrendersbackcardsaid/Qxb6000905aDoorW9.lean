/-
  WALKS of seat b6000905aD: lowerByte, lowerASCII, cloneStrings.
-/
import Derived.Test.Qxb6000905aDoorW8
import Derived.Deep.OwnRows
import Derived.Laws.IdiomStrings
import Derived.Lib.Case
import Derived.Lib.SliceRun
set_option linter.unusedVariables false
namespace Go.Proofs.Qxb6000905aDoor
open Go.RowKit Go.Lib

theorem Tryd.info5 : (Tryd.prog.info? 5).map (fun i => (i.zero, i.size, i.bytes)) = some (some (.int .u8 0), 1, 1) := by kernel_rfl
theorem Tryd.info9 : (Tryd.prog.info? 9).map (fun i => (i.zero, i.size, i.bytes)) = some (some (.string ⟨#[]⟩), 1, 16) := by kernel_rfl

def lowF (s : ByteArray) (i j : Nat) : Value := if j < i then .int .u8 ((toLowerA s.data.toList).getD j 0).toNat else .int .u8 0
theorem low_step {w : World} {g i : Nat} {s : ByteArray} {x : Int} (h : w.rowIs g 5 s.size (lowF s i)) (hx : x = (((toLowerA s.data.toList).getD i 0).toNat : Int)) : (w.setCell ⟨g, i, none⟩ (.int .u8 x)).rowIs g 5 s.size (lowF s (i + 1)) := by
  subst hx
  refine (h.set i _).congr fun j hj => ?_
  unfold lowF
  by_cases e : j = i
  · subst e; rw [if_pos rfl, if_pos (by omega)]
  · rw [if_neg e]
    by_cases e2 : j < i
    · rw [if_pos e2, if_pos (by omega)]
    · rw [if_neg e2, if_neg (by omega)]
theorem low_at (s : ByteArray) (i : Nat) (h : i < s.size) : (toLowerA s.data.toList).getD i 0 = lowerB s[i] := by
  unfold toLowerA
  have hl : i < s.data.toList.length := by simpa using h
  rw [List.getD_eq_getElem?_getD, List.getElem?_map, List.getElem?_eq_getElem hl]
  rfl
theorem low_byte (c : UInt8) : ((65 ≤ c.toNat ∧ c.toNat ≤ 90) → (lowerB c).toNat = c.toNat + 32) ∧ (¬ (65 ≤ c.toNat ∧ c.toNat ≤ 90) → lowerB c = c) := by
  have key : ∀ i : Fin 256, ((65 ≤ (UInt8.ofNat i.val).toNat ∧ (UInt8.ofNat i.val).toNat ≤ 90) → (lowerB (UInt8.ofNat i.val)).toNat = (UInt8.ofNat i.val).toNat + 32) ∧ (¬ (65 ≤ (UInt8.ofNat i.val).toNat ∧ (UInt8.ofNat i.val).toNat ≤ 90) → lowerB (UInt8.ofNat i.val) = UInt8.ofNat i.val) := by decide +kernel
  have := key ⟨c.toNat, UInt8.toNat_lt c⟩
  simpa only [UInt8.ofNat_toNat] using this
theorem low_len (s : ByteArray) : (toLowerA s.data.toList).length = s.size := by unfold toLowerA; simp
theorem low_conv {w : World} {g : Nat} {s : ByteArray} (h : w.rowIs g 5 s.size (lowF s s.size)) : (convert 44 9 (.slice (some ⟨g, 0, none⟩) s.size s.size)).run Tryd.prog w = .ok (.string ⟨(toLowerA s.data.toList).toArray⟩) w := by
  have := run_convert_bytes_back (P := Tryd.prog) w 44 9 5 ⟨g, 0, none⟩ s.size (toLowerA s.data.toList) Tryd.underlying44 Tryd.underlying5 Tryd.underlying9 (by
    intro j hj
    have hj' : j < s.size := by rw [low_len] at hj; exact hj
    have hadd : (⟨g, 0, none⟩ : Addr).add j = ⟨g, j, none⟩ := by unfold Addr.add; split <;> simp_all
    rw [hadd, h.cell hj']
    unfold lowF
    rw [if_pos hj', List.getD_eq_getElem?_getD, List.getElem?_eq_getElem hj]; rfl)
  rw [low_len] at this
  exact this

/-- lowerByte. -/
theorem lowerByte_any (c : UInt8) (w : World) : Calls Tryd.prog 21 #[.int .u8 c.toNat] w fun e w' => e = .returned (.int .u8 (lowerB c).toNat) ∧ w' = w := by
  have hb := UInt8.toNat_lt c
  have HA := hide (low_byte c)
  by_cases h1 : (65 : Int) ≤ (c.toNat : Int)
  · by_cases h2 : (c.toNat : Int) ≤ 90
    · have HX := hide (show (c.toNat : Int) + 32 = ((lowerB c).toNat : Int) by rw [(unhide HA).1 (by omega)]; omega)
      go_enter Tryd.func21, Tryd.ntmps21
      go_wp2
      go_ret
      refine ⟨?_, rfl⟩
      rw [← unhide HX]; rfl
    · have h2' : (90 : Int) < (c.toNat : Int) := by omega
      have HX := hide (show lowerB c = c from (unhide HA).2 (by omega))
      rw [unhide HX]
      go_enter Tryd.func21, Tryd.ntmps21
      go_wp2
      go_ret
      exact ⟨rfl, rfl⟩
  · have h1' : (c.toNat : Int) < 65 := by omega
    have HX := hide (show lowerB c = c from (unhide HA).2 (by omega))
    rw [unhide HX]
    go_enter Tryd.func21, Tryd.ntmps21
    go_wp2
    go_ret
    exact ⟨rfl, rfl⟩
set_option maxHeartbeats 1000000 in
/-- lowerASCII. -/
theorem lower_any (s : ByteArray) (w : World) (hs : s.size ≤ 1099511627776) : Calls Tryd.prog 12 #[.string s] w fun e w' => e = .returned (.string ⟨(toLowerA s.data.toList).toArray⟩) ∧ Below w.heap.size w w' := by
  obtain ⟨i0, hi, hz0, hz1, hz2⟩ := info_parts Tryd.info5
  go_enter Tryd.func12, Tryd.ntmps12
  go_wp2_with (at_make; refine wpList_make_row _ rfl _ _ 44 rfl 5 i0 (.int .u8 0) Tryd.underlying44 hi hz0 hz1 rfl _ _ s.size rfl rfl (by rw [hz2]; omega) (by omega) ?_)
  go_loopw [4] (fun x wr => ∃ i : Nat, i ≤ s.size ∧ x = .int .i64 i ∧ Hid (wr.rowIs w.heap.size 5 s.size (lowF s i)) ∧ Hid (Below w.heap.size w wr)) (fun x _ => s.size - (RowKit.intOf x).toNat)
  case atStart => exact ⟨0, Nat.zero_le _, rfl, hide ((World.rowIs_made w _ _ _).congr fun j _ => by unfold lowF; rw [if_neg (by omega)]), hide ((Below.refl _ _).alloc (Nat.le_refl _) _)⟩
  case round =>
    obtain ⟨i, hin, rfl, HR, HB⟩ := hrel
    by_cases hlt : i < s.size
    · have hc := (unhide HR).cell hlt
      have hf := (unhide HR).frozen i
      have HC := hide (lowerByte_any s[i] wr)
      have HX := hide (show ((lowerB s[i]).toNat : Int) = (((toLowerA s.data.toList).getD i 0).toNat : Int) by rw [low_at s i hlt])
      go_wp2_with fail
      refine (unhide HC).mono ?_
      rintro e w1 ⟨rfl, hw⟩
      have hw2 := hw.symm; subst hw2
      clear hw HC
      go_wp2
      go_roundw
      case rel => exact ⟨i + 1, hlt, by go_num, hide (low_step (unhide HR) (unhide HX)), hide ((unhide HB).setCell (Nat.le_refl _) _)⟩
      case measure => simp [RowKit.intOf]; omega
    · have e : i = s.size := by omega
      subst e
      have hcv := low_conv (unhide HR)
      go_wp2
      go_ret
      exact ⟨rfl, unhide HB⟩

def strF (ss : List ByteArray) (i j : Nat) : Value := if j < i then .string (ss.getD j ⟨#[]⟩) else .string ⟨#[]⟩
theorem str_step {w : World} {g n i : Nat} {ss : List ByteArray} {x : ByteArray} (h : w.rowIs g 9 n (strF ss i)) (hx : x = ss.getD i ⟨#[]⟩) : (w.setCell ⟨g, i, none⟩ (.string x)).rowIs g 9 n (strF ss (i + 1)) := by
  subst hx
  refine (h.set i _).congr fun j hj => ?_
  unfold strF
  by_cases e : j = i
  · subst e; rw [if_pos rfl, if_pos (by omega)]
  · rw [if_neg e]
    by_cases e2 : j < i
    · rw [if_pos e2, if_pos (by omega)]
    · rw [if_neg e2, if_neg (by omega)]
theorem str_start (w : World) (ss : List ByteArray) (n : Nat) : (w.alloc (.cells (madeCells #[.string ⟨#[]⟩] n) 9)).rowIs w.heap.size 9 n (strF ss 0) := (World.rowIs_made w _ _ _).congr fun j _ => by unfold strF; rw [if_neg (by omega)]
theorem str_view {w : World} {g : Nat} {ss : List ByteArray} (h : w.rowIs g 9 ss.length (strF ss ss.length)) : ViewS w (some ⟨g, 0, none⟩) ss := by
  intro _
  refine ⟨g, 0, rfl, fun j hj => ?_⟩
  rw [Nat.zero_add, h.cell hj]
  unfold strF
  rw [if_pos hj, List.getD_eq_getElem?_getD, List.getElem?_eq_getElem hj]; rfl

/-- A slice of strings that came out of a call. -/
def OutS (w : World) (ss : List ByteArray) (e : Ending) (w' : World) : Prop := ∃ p c, e = .returned (.slice p ss.length c) ∧ (p = none → c = 0) ∧ (∀ a : Addr, p = some a → w.heap.size ≤ a.block) ∧ ViewS w' p ss
theorem clone_nil (w : World) : Calls Tryd.prog 16 #[.slice none 0 0] w fun e w' => OutS w [] e w' ∧ Below w.heap.size w w' := by
  have hnil := Lib.run_eql_slice_nil (P := Tryd.prog) w 25 9 none 0 0 0 0 Tryd.underlying25
  go_enter Tryd.func16, Tryd.ntmps16
  go_wp2
  go_ret
  exact ⟨⟨none, 0, rfl, fun _ => rfl, (fun _ h => by cases h), fun h => by cases h⟩, Below.refl _ _⟩
set_option maxHeartbeats 1000000 in
theorem clone_some (ad : Addr) (cap : Nat) (ss : List ByteArray) (w : World) (hn : ss.length ≤ 1048576) (hV : ViewS w (some ad) ss) : Calls Tryd.prog 16 #[.slice (some ad) ss.length cap] w fun e w' => OutS w ss e w' ∧ Below w.heap.size w w' := by
  obtain ⟨i0, hi, hz0, hz1, hz2⟩ := info_parts Tryd.info9
  have HV := hide hV
  clear hV
  have hnil := Lib.run_eql_slice_nil (P := Tryd.prog) w 25 9 (some ad) ss.length cap 0 0 Tryd.underlying25
  go_enter Tryd.func16, Tryd.ntmps16
  go_wp2_with (at_make; refine wpList_make_row _ rfl _ _ 25 rfl 9 i0 (.string ⟨#[]⟩) Tryd.underlying25 hi hz0 hz1 rfl _ _ ss.length rfl rfl (by rw [hz2]; omega) (by omega) ?_)
  go_loopw [4] (fun x wr => ∃ i : Nat, i ≤ ss.length ∧ x = .int .i64 i ∧ Hid (wr.rowIs w.heap.size 9 ss.length (strF ss i)) ∧ Hid (Below w.heap.size w wr)) (fun x _ => ss.length - (RowKit.intOf x).toNat)
  case atStart => exact ⟨0, Nat.zero_le _, rfl, hide (str_start w ss _), hide ((Below.refl _ _).alloc (Nat.le_refl _) _)⟩
  case round =>
    obtain ⟨i, hin, rfl, HR, HB⟩ := hrel
    by_cases hlt : i < ss.length
    · have hc := (unhide HR).cell hlt
      have hf := (unhide HR).frozen i
      obtain ⟨b, o, hb, hsc⟩ := (unhide HV).below (unhide HB) (by omega)
      simp only [Option.some.injEq] at hb
      subst hb
      have hsi := hsc i hlt
      clear hsc
      have HX := hide (show ss[i] = ss.getD i ⟨#[]⟩ by rw [List.getD_eq_getElem?_getD, List.getElem?_eq_getElem hlt]; rfl)
      go_wp2
      go_roundw
      case rel => exact ⟨i + 1, hlt, by go_num, hide (str_step (unhide HR) (unhide HX)), hide ((unhide HB).setCell (Nat.le_refl _) _)⟩
      case measure => simp [RowKit.intOf]; omega
    · have e : i = ss.length := by omega
      subst e
      go_wp2
      go_ret
      exact ⟨⟨_, _, rfl, fun h => (by cases h), (fun a h => by cases h; exact Nat.le_refl _), str_view (unhide HR)⟩, unhide HB⟩
/-- cloneStrings. -/
theorem clone_any (p : Option Addr) (cap : Nat) (ss : List ByteArray) (w : World) (hn : ss.length ≤ 1048576) (hp : p = none → cap = 0) (hV : ViewS w p ss) : Calls Tryd.prog 16 #[.slice p ss.length cap] w fun e w' => OutS w ss e w' ∧ Below w.heap.size w w' := by
  cases p with
  | none =>
    have : ss = [] := by
      cases ss with
      | nil => rfl
      | cons a r => obtain ⟨_, _, h, _⟩ := hV (by simp); cases h
    subst this
    rw [hp rfl]
    exact clone_nil w
  | some ad => exact clone_some ad cap ss w hn hV
end Go.Proofs.Qxb6000905aDoor
