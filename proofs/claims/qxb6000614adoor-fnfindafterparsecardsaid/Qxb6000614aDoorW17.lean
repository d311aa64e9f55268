/-
  WALKS of seat b6000614aD: zzItoa.
-/
import Derived.Test.Qxb6000614aDoorW16
set_option linter.unusedVariables false
namespace Go.Proofs.Qxb6000614aDoor
open Go.RowKit Go.Lib

/-- Decimal digits, at most f of them. -/
def digs : Nat → Nat → List UInt8
  | 0, _ => []
  | f + 1, n => if n = 0 then [] else digs f (n / 10) ++ [UInt8.ofNat (48 + n % 10)]
theorem digs_zero (f : Nat) : digs f 0 = [] := by cases f <;> rfl
theorem digs_step (f n : Nat) (h : n ≠ 0) : digs (f + 1) n = digs f (n / 10) ++ [UInt8.ofNat (48 + n % 10)] := by
  show (if n = 0 then [] else digs f (n / 10) ++ [UInt8.ofNat (48 + n % 10)]) = _
  rw [if_neg h]
theorem digs_dig : ∀ (f n : Nat), ∀ c ∈ digs f n, 48 ≤ c.toNat ∧ c.toNat ≤ 57
  | 0, n, c, h => by cases h
  | f + 1, n, c, h => by
    by_cases h0 : n = 0
    · subst h0; rw [digs_zero] at h; cases h
    · rw [digs_step f n h0] at h
      rcases List.mem_append.1 h with h | h
      · exact digs_dig f (n / 10) c h
      · rw [List.mem_singleton.1 h, UInt8.toNat_ofNat']
        omega
/-- zzItoa's text. -/
def itoaL (n : Nat) : List UInt8 := if n = 0 then [48] else digs 24 n
theorem itoaL_dig (n : Nat) : (∀ c ∈ itoaL n, 48 ≤ c.toNat ∧ c.toNat ≤ 57) ∧ itoaL n ≠ [] := by
  unfold itoaL
  split
  · exact ⟨by intro c hc; rw [List.mem_singleton.1 hc]; decide, by simp⟩
  · rename_i h
    refine ⟨digs_dig 24 n, ?_⟩
    rw [digs_step 23 n h]; simp
theorem itoaL_VT (n : Nat) : VT (itoaL n) (itoaL n) := by
  obtain ⟨h1, h2⟩ := itoaL_dig n
  generalize itoaL n = l at *
  have key : ∀ i : Fin 256, 48 ≤ (UInt8.ofNat i.val).toNat ∧ (UInt8.ofNat i.val).toNat ≤ 57 → noSep (UInt8.ofNat i.val) = true ∧ isWs (UInt8.ofNat i.val) = false ∧ UInt8.ofNat i.val ≠ 34 := by decide +kernel
  have hk : ∀ c ∈ l, noSep c = true ∧ isWs c = false ∧ c ≠ 34 := by
    intro c hc
    have := key ⟨c.toNat, UInt8.toNat_lt c⟩
    simp only [UInt8.ofNat_toNat] at this
    exact this (h1 c hc)
  intro t ht
  have hw := take_all noSep (fun c hc => (hk c hc).1) t (by
    intro c hc
    rcases ht with rfl | ht
    · cases hc
    · rw [ht] at hc; cases hc; decide)
  cases l with
  | nil => exact absurd rfl h2
  | cons a r =>
    have ha := hk a (List.mem_cons_self ..)
    constructor
    · show (if a = 34 then qv [] (r ++ t) else some ((a :: r ++ t).takeWhile noSep, (a :: r ++ t).dropWhile noSep)) = _
      rw [if_neg ha.2.2, hw.1, hw.2]
    · exact drop_none isWs _ (by intro c hc; simp at hc; subst hc; exact ha.2.1)

def digF (g : List UInt8) (i j : Nat) : Value := if j < i then .int .u8 0 else .int .u8 (g.getD (j - i) 0).toNat
theorem dig_start (w : World) : (w.alloc (.cells #[.int .u8 0, .int .u8 0, .int .u8 0, .int .u8 0, .int .u8 0, .int .u8 0, .int .u8 0, .int .u8 0, .int .u8 0, .int .u8 0, .int .u8 0, .int .u8 0, .int .u8 0, .int .u8 0, .int .u8 0, .int .u8 0, .int .u8 0, .int .u8 0, .int .u8 0, .int .u8 0, .int .u8 0, .int .u8 0, .int .u8 0, .int .u8 0] 50)).rowIs w.heap.size 50 24 (digF [] 24) :=
  World.rowIs_alloc w _ 50 (digF [] 24) (by
    intro i hi
    have hi' : i < 24 := hi
    unfold digF
    rw [if_pos hi']
    have e : (#[.int .u8 0, .int .u8 0, .int .u8 0, .int .u8 0, .int .u8 0, .int .u8 0, .int .u8 0, .int .u8 0, .int .u8 0, .int .u8 0, .int .u8 0, .int .u8 0, .int .u8 0, .int .u8 0, .int .u8 0, .int .u8 0, .int .u8 0, .int .u8 0, .int .u8 0, .int .u8 0, .int .u8 0, .int .u8 0, .int .u8 0, .int .u8 0] : Array Value) = Array.replicate 24 (.int .u8 0) := rfl
    rw [e, Array.getElem?_replicate, if_pos hi'])
theorem dig_step {w : World} {b k : Nat} {g : List UInt8} {c : UInt8} {x : Int} (h : w.rowIs b 50 24 (digF g (k + 1))) (hk : k < 24) (hx : x = (c.toNat : Int)) : (w.setCell ⟨b, k, none⟩ (.int .u8 x)).rowIs b 50 24 (digF (c :: g) k) := by
  subst hx
  refine (h.set k _).congr fun j hj => ?_
  unfold digF
  by_cases e : j = k
  · subst e
    rw [if_pos rfl, if_neg (by omega), Nat.sub_self]; rfl
  · rw [if_neg e]
    by_cases e2 : j < k
    · rw [if_pos (by omega), if_pos e2]
    · rw [if_neg (by omega), if_neg e2]
      have : j - k = (j - (k + 1)) + 1 := by omega
      rw [this]; rfl
theorem dig_conv {w : World} {b i : Nat} {g : List UInt8} (hi : i ≤ 24) (hg : g.length = 24 - i) (h : w.rowIs b 50 24 (digF g i)) : ∀ c, (convert 28 9 (.slice (some ⟨b, i, none⟩) (24 - i) c)).run Tryd.prog w = .ok (.string ⟨g.toArray⟩) w := by
  intro c
  have := run_convert_bytes_back (P := Tryd.prog) w 28 9 5 ⟨b, i, none⟩ c g Tryd.underlying28 Tryd.underlying5 Tryd.underlying9 (by
    intro j hj
    have hadd : (⟨b, i, none⟩ : Addr).add j = ⟨b, i + j, none⟩ := by unfold Addr.add; split <;> simp_all
    rw [hadd, h.cell (show i + j < 24 by omega)]
    unfold digF
    rw [if_neg (by omega), Nat.add_sub_cancel_left, List.getD_eq_getElem?_getD, List.getElem?_eq_getElem hj]; rfl)
  rw [hg] at this
  exact this
theorem arr_slice (b i : Nat) (hi : i < 24) (w : World) : (Instr.sliceAt 50 (.pointer (some ⟨b, 0, none⟩)) (some (.int .i64 i)) none none).run Tryd.prog w = .ok (.slice (some ⟨b, i, none⟩) (24 - i) (24 - i)) w := by
  have hal : Tryd.prog.arrayLen 50 = 24 := by kernel_rfl
  have hel : Tryd.prog.elem 50 = 5 := by kernel_rfl
  have hu : Tryd.prog.underlying 50 = some (.array (Tryd.prog.arrayLen 50) (Tryd.prog.elem 50)) := by rw [hal, hel]; exact Tryd.underlying50
  have hs : (Go.sizeOf 5).run Tryd.prog w = .ok 1 w := Tryd.sizeOf5 w
  rw [run_sliceAt_array_l w 50 ⟨b, 0, none⟩ hu .i64 i (by omega) (by rw [hal]; omega), hel, hs]
  simp only [Result.andThen, slicedAt, hal, Int.toNat_natCast, Nat.mul_one]
  rw [if_neg (by omega)]
  have hadd : (⟨b, 0, none⟩ : Addr).add i = ⟨b, i, none⟩ := by unfold Addr.add; split <;> simp_all
  rw [hadd]
set_option maxHeartbeats 1000000 in
set_option maxRecDepth 100000 in
theorem itoa_any (n : Nat) (w : World) (hn : n ≤ 1048576) : Calls Tryd.prog 24 #[.int .i64 n] w fun e w' => e = .returned (.string ⟨(itoaL n).toArray⟩) ∧ Below w.heap.size w w' := by
  by_cases h0 : n = 0
  · subst h0
    go_enter Tryd.func24, Tryd.ntmps24
    go_wp2
    go_ret
    exact ⟨rfl, Below.refl _ _⟩
  · have e : itoaL n = digs 24 n := by unfold itoaL; rw [if_neg h0]
    rw [e]
    clear e
    have hn0 : (0 : Int) < (n : Int) := by omega
    go_enter Tryd.func24, Tryd.ntmps24
    go_wp2
    go_loopw [0, 4] (fun u v wr => ∃ (m i : Nat) (g : List UInt8), i ≤ 24 ∧ m ≤ 1048576 ∧ u = .int .i64 m ∧ v = .int .i64 i ∧ Hid (m < 10 ^ i) ∧ Hid (g.length = 24 - i) ∧ Hid (wr.rowIs w.heap.size 50 24 (digF g i)) ∧ Hid (Below w.heap.size w wr) ∧ Hid (digs 24 n = digs i m ++ g)) (fun u _ _ => (RowKit.intOf u).toNat)
    case atStart => exact ⟨n, 24, [], Nat.le_refl _, hn, rfl, rfl, hide (by omega), hide rfl, hide (dig_start w), hide ((Below.refl _ _).alloc (Nat.le_refl _) _), hide (by simp)⟩
    case round =>
      have H0 := hide h0
      clear hn h0 hn0
      obtain ⟨m, i, g, hi, hm, rfl, rfl, HM, HG, HR, HB, HD⟩ := hrel
      by_cases hm0 : (0 : Int) < (m : Int)
      · have HI : Hid (i ≠ 0) := hide (by intro h; subst h; have := unhide HM; simp at this; omega)
        obtain ⟨k, rfl⟩ : ∃ k, i = k + 1 := ⟨i - 1, by have := unhide HI; omega⟩
        have hc := (unhide HR).cell (show k < 24 by omega)
        have hf := (unhide HR).frozen k
        have hk24 : (k : Int) < 24 := by omega
        have hdm : (m : Int) % 10 < 10 := by omega
        have hdm0 : 0 ≤ (m : Int) % 10 := by omega
        go_wp2
        go_roundw
        case rel =>
          refine ⟨m / 10, k, UInt8.ofNat (48 + m % 10) :: g, by omega, by omega, by go_num, rfl, hide ?_, hide ?_, hide ?_, hide ((unhide HB).setCell (Nat.le_refl _) _), hide ?_⟩
          · have := unhide HM
            rw [Nat.pow_succ] at this
            omega
          · have := unhide HG
            rw [List.length_cons]; omega
          · exact dig_step (unhide HR) (by omega) (by rw [UInt8.toNat_ofNat']; omega)
          · rw [unhide HD, digs_step k m (by omega)]; simp
        case measure => simp [RowKit.intOf]; omega
      · have hm1 : m = 0 := by omega
        subst hm1
        have HE : Hid (digs 24 n = g) := hide (by rw [unhide HD, digs_zero]; rfl)
        have hi24 : i < 24 := by
          have h1 := unhide HE
          rw [digs_step 23 n (unhide H0)] at h1
          have h2 := congrArg List.length h1
          rw [List.length_append, unhide HG] at h2
          simp at h2
          omega
        have hsl := arr_slice w.heap.size i hi24 wr
        have hcv := dig_conv hi (unhide HG) (unhide HR) (24 - i)
        go_wp2
        go_ret
        rw [unhide HE]
        exact ⟨rfl, unhide HB⟩
end Go.Proofs.Qxb6000614aDoor
