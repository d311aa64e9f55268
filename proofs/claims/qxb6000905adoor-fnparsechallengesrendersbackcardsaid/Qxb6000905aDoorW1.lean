/-
  WALKS of seat b6000905aD: cutToken at a text whose token ends at an ASCII byte or at the end.
-/
import Derived.Test.Qxb6000905aDoorProg
import Derived.Test.Qxb6000905aDoorPlain
import Derived.Test.Qxb6000905aDoorSh
import Derived.WalkKit
import Derived.Deep.Light
import Derived.WalkSpells
import Derived.WalkLawsBesides
import Derived.Deep.QuietTactic
import Derived.BigQuiet
import Derived.Lib.IndexAny
import Derived.Lib.OthersKept
set_option linter.unusedVariables false
namespace Go.Proofs.Qxb6000905aDoor
open Go.RowKit Go.Lib

theorem hide {p : Prop} (h : p) : Hid p := h
theorem unhide {p : Prop} (h : Hid p) : p := h.out
theorem beqf {a b : Int} (h : ¬ a = b) : (a == b) = false := beq_eq_false_iff_ne.2 h
def specials : List UInt8 := [33, 35, 36, 37, 38, 39, 42, 43, 45, 46, 94, 95, 96, 124, 126]
theorem isTok_specials (c : UInt8) : isTok c = ((97 ≤ c.toNat && c.toNat ≤ 122) || (65 ≤ c.toNat && c.toNat ≤ 90) || (48 ≤ c.toNat && c.toNat ≤ 57) || specials.contains c) := by
  have key : ∀ i : Fin 256, isTok (UInt8.ofNat i.val) = ((97 ≤ (UInt8.ofNat i.val).toNat && (UInt8.ofNat i.val).toNat ≤ 122) || (65 ≤ (UInt8.ofNat i.val).toNat && (UInt8.ofNat i.val).toNat ≤ 90) || (48 ≤ (UInt8.ofNat i.val).toNat && (UInt8.ofNat i.val).toNat ≤ 57) || specials.contains (UInt8.ofNat i.val)) := by decide +kernel
  have := key ⟨c.toNat, UInt8.toNat_lt c⟩
  simpa only [UInt8.ofNat_toNat] using this

theorem cl_call (x : Int) (w : World) (h0 : 0 ≤ x) (h1 : x < 128) (hd : 122 < x ∨ (90 < x ∧ x < 97) ∨ (57 < x ∧ x < 65) ∨ x < 48) :
    Calls Tryd.prog 33 #[.int .i32 x] w fun e w' => e = .returned (.bool (!decide (0 ≤ indexByte specials x.toNat.toUInt8))) ∧ w' = w := by
  have hc := Tryd.strings_ContainsRune_ascii ⟨#[33, 35, 36, 37, 38, 39, 42, 43, 45, 46, 94, 95, 96, 124, 126]⟩ x w h0 h1
  have hl : (⟨#[33, 35, 36, 37, 38, 39, 42, 43, 45, 46, 94, 95, 96, 124, 126]⟩ : ByteArray).data.toList = specials := rfl
  rw [hl] at hc
  generalize decide (0 ≤ indexByte specials x.toNat.toUInt8) = r at hc
  have HC := hide hc
  clear hc hl
  rcases hd with hd | hd | hd | hd
  all_goals
    go_enter Tryd.func33, Tryd.ntmps33
    go_wp2_with fail
    refine (unhide HC).mono ?_
    rintro e w' ⟨rfl, hw⟩
    have hw2 := hw.symm; subst hw2
    go_wp2
    go_ret
    refine ⟨?_, rfl⟩
    first | rfl | (cases r <;> simp <;> omega)
theorem cl_true (x : Int) (w : World) (hd : (97 ≤ x ∧ x ≤ 122) ∨ (65 ≤ x ∧ x ≤ 90) ∨ (48 ≤ x ∧ x ≤ 57)) :
    Calls Tryd.prog 33 #[.int .i32 x] w fun e w' => e = .returned (.bool false) ∧ w' = w := by
  rcases hd with ⟨hd, hd'⟩ | ⟨hd, hd'⟩ | ⟨hd, hd'⟩
  all_goals
    go_enter Tryd.func33, Tryd.ntmps33
    go_wp2
    go_ret
    exact ⟨rfl, rfl⟩
theorem closure_any (c : UInt8) (hc : c.toNat < 128) (w : World) :
    Calls Tryd.prog 33 #[.int .i32 c.toNat] w fun e w' => e = .returned (.bool (!isTok c)) ∧ w' = w := by
  rw [isTok_specials]
  by_cases h : (97 ≤ c.toNat ∧ c.toNat ≤ 122) ∨ (65 ≤ c.toNat ∧ c.toNat ≤ 90) ∨ (48 ≤ c.toNat ∧ c.toNat ≤ 57)
  · have : ((97 ≤ c.toNat && c.toNat ≤ 122) || (65 ≤ c.toNat && c.toNat ≤ 90) || (48 ≤ c.toNat && c.toNat ≤ 57) || specials.contains c) = true := by
      rcases h with ⟨h, h'⟩ | ⟨h, h'⟩ | ⟨h, h'⟩ <;> simp [h, h']
    rw [this]
    exact cl_true _ w (by omega)
  · have e1 : (97 ≤ c.toNat && c.toNat ≤ 122) = false := by simp; omega
    have e2 : (65 ≤ c.toNat && c.toNat ≤ 90) = false := by simp; omega
    have e3 : (48 ≤ c.toNat && c.toNat ≤ 57) = false := by simp; omega
    rw [e1, e2, e3, Bool.false_or, Bool.false_or, Bool.false_or, contains_iff_indexByte]
    have := cl_call c.toNat w (by omega) (by omega) (by omega)
    simpa using this

/-- The text from i on. -/
def sfx (s : ByteArray) (i : Nat) : List UInt8 := s.data.toList.drop i
theorem sfx_cons (s : ByteArray) (i : Nat) (h : i < s.size) : sfx s i = s[i] :: sfx s (i + 1) := by
  unfold sfx
  have hl : i < s.data.toList.length := by simpa using h
  rw [List.drop_eq_getElem_cons hl]
  rfl
theorem sfx_end (s : ByteArray) (i : Nat) (h : s.size ≤ i) : sfx s i = [] := by
  unfold sfx
  exact List.drop_eq_nil_of_le (by simpa using h)
theorem sfx_len (s : ByteArray) (i : Nat) : (sfx s i).length = s.size - i := by unfold sfx; simp
theorem tok_ascii (c : UInt8) (h : isTok c = true) : c.toNat < 128 := by
  have key : ∀ i : Fin 256, isTok (UInt8.ofNat i.val) = true → (UInt8.ofNat i.val).toNat < 128 := by decide +kernel
  have := key ⟨c.toNat, UInt8.toNat_lt c⟩
  simp only [UInt8.ofNat_toNat] at this
  exact this h
/-- What follows a token: nothing, or an ASCII byte that is no token's. -/
def Stop (u : List UInt8) : Prop := ∀ c, u.head? = some c → isTok c = false ∧ c.toNat < 128

theorem byte_at {s : ByteArray} {tk u : List UInt8} (hs : s.data.toList = tk ++ u) {pos : Nat} (hlt : pos < s.size) (hp : pos ≤ tk.length) : (pos < tk.length ∧ s[pos] ∈ tk) ∨ (pos = tk.length ∧ u.head? = some s[pos]) := by
  have hl : pos < s.data.toList.length := by simpa using hlt
  have e : s[pos] = s.data.toList[pos] := rfl
  rcases Nat.lt_or_ge pos tk.length with h | h
  · refine .inl ⟨h, ?_⟩
    have : s.data.toList[pos]? = tk[pos]? := by rw [hs, List.getElem?_append_left h]
    rw [List.getElem?_eq_getElem hl, List.getElem?_eq_getElem h] at this
    rw [e, Option.some.inj this]
    exact List.getElem_mem h
  · have hk : pos = tk.length := by omega
    refine .inr ⟨hk, ?_⟩
    have : s.data.toList[pos]? = u[pos - tk.length]? := by rw [hs, List.getElem?_append_right h]
    have h0 : pos - tk.length = 0 := by omega
    rw [List.getElem?_eq_getElem hl, h0] at this
    rw [List.head?_eq_getElem?, ← this, e]
def stopIdx (tk u : List UInt8) : Int := if u = [] then -1 else (tk.length : Int)
/-- Where an iterator stands. -/
def itPos (w : World) (b : Nat) : Nat := match w.heap[b]? with | some (.stringIter _ p) => p | _ => 0
theorem itPos_of {w : World} {b p : Nat} {s : ByteArray} (h : w.heap[b]? = some (.stringIter s p)) : itPos w b = p := by unfold itPos; rw [h]
set_option maxHeartbeats 1000000 in
set_option maxRecDepth 100000 in
/-- strings.indexFunc with cutToken's closure. -/
theorem indexFunc_at (s : ByteArray) (tk u : List UInt8) (w : World) (hs : s.data.toList = tk ++ u) (ht : ∀ c ∈ tk, isTok c = true) (hu : Stop u) (hz : s.size ≤ 1099511627776) :
    Calls Tryd.prog 45 #[.string s, .func (.func 33) #[] #[], .bool true] w fun e w' => e = .returned (.int .i64 (stopIdx tk u)) ∧ Below w.heap.size w w' := by
  have HS := hide hs
  have HT := hide ht
  have HU := hide hu
  have hle : tk.length ≤ s.size := by
    have := congrArg List.length hs
    simp at this
    omega
  have hlu : u.length + tk.length = s.size := by
    have := congrArg List.length hs
    simp at this
    omega
  clear hs ht hu
  go_enter Tryd.func45, Tryd.ntmps45
  go_wp2
  go_loopw [] (fun wr => ∃ pos : Nat, pos ≤ tk.length ∧ Hid (wr.heap[w.heap.size]? = some (.stringIter s pos)) ∧ Hid (Below w.heap.size w wr)) (fun wr => s.size - itPos wr w.heap.size)
  case atStart => exact ⟨0, Nat.zero_le _, hide (World.iter_heap w s 0), hide ((Below.refl _ w).alloc (Nat.le_refl _) _)⟩
  case round =>
    obtain ⟨pos, hpos, HI, HB⟩ := hrel
    by_cases hlt : pos < s.size
    · have HX := hide (byte_at (unhide HS) hlt hpos)
      have HA : Hid (s[pos].toNat < 128) := hide (by
        rcases unhide HX with ⟨h1, h2⟩ | ⟨h1, h2⟩
        · exact tok_ascii _ (unhide HT _ h2)
        · exact (unhide HU _ h2).2)
      have hnx : ∀ ty, (Instr.next (.pointer (some ⟨w.heap.size, 0, none⟩)) true ty).run Tryd.prog wr = _ := fun ty => Lib.run_next_ascii_at wr w.heap.size s pos ty (unhide HI) hlt (unhide HA)
      have HI2 := hide (Lib.iterAt_heap wr w.heap.size s pos (pos + 1) (unhide HI))
      have HB2 := hide (Lib.below_iterAt (unhide HB) (k := w.heap.size) (Nat.le_refl _) s (pos + 1))
      obtain ⟨W, hWd⟩ : ∃ W, wr.iterAt w.heap.size s (pos + 1) = W := ⟨_, rfl⟩
      rw [hWd] at hnx HI2 HB2
      clear hWd
      have HC := hide (closure_any s[pos] (unhide HA) W)
      by_cases hk : pos < tk.length
      · have ht : isTok s[pos] = true := by
          rcases unhide HX with ⟨h1, h2⟩ | ⟨h1, h2⟩
          · exact unhide HT _ h2
          · omega
        rw [ht] at HC
        clear ht
        go_wp2_with fail
        refine (unhide HC).mono ?_
        rintro e W' ⟨rfl, hw⟩
        have hw2 := hw.symm; subst hw2
        go_wp2
        go_roundw
        case rel => exact ⟨pos + 1, hk, HI2, HB2⟩
        case measure => rw [itPos_of (unhide HI), itPos_of (unhide HI2)]; omega
      · have ht : isTok s[pos] = false := by
          rcases unhide HX with ⟨h1, h2⟩ | ⟨h1, h2⟩
          · omega
          · exact (unhide HU _ h2).1
        rw [ht] at HC
        clear ht
        have HPK : Hid (pos = tk.length) := hide (by omega)
        have HNE : Hid (u ≠ []) := hide (by intro h; rw [h] at hlu; simp at hlu; omega)
        go_wp2_with fail
        refine (unhide HC).mono ?_
        rintro e W' ⟨rfl, hw⟩
        have hw2 := hw.symm; subst hw2
        go_wp2
        go_ret
        refine ⟨?_, unhide HB2⟩
        unfold stopIdx
        rw [if_neg (unhide HNE), ← unhide HPK]; rfl
    · have hnx : ∀ ty, (Instr.next (.pointer (some ⟨w.heap.size, 0, none⟩)) true ty).run Tryd.prog wr = _ := fun ty => Lib.run_next_end_at wr w.heap.size s pos ty (unhide HI) hlt
      have HU0 : Hid (u = []) := hide (List.eq_nil_of_length_eq_zero (by omega))
      go_wp2
      go_ret
      refine ⟨?_, unhide HB⟩
      unfold stopIdx
      rw [if_pos (unhide HU0)]; rfl

theorem indexFunc32 (s : ByteArray) (tk u : List UInt8) (w : World) (hs : s.data.toList = tk ++ u) (ht : ∀ c ∈ tk, isTok c = true) (hu : Stop u) (hz : s.size ≤ 1099511627776) :
    Calls Tryd.prog 32 #[.string s, .func (.func 33) #[] #[]] w fun e w' => e = .returned (.int .i64 (stopIdx tk u)) ∧ Below w.heap.size w w' := by
  have HI := hide (indexFunc_at s tk u w hs ht hu hz)
  clear hs ht hu
  go_enter Tryd.func32, Tryd.ntmps32
  go_wp2_with fail
  refine (unhide HI).mono ?_
  rintro e W ⟨rfl, hb⟩
  have HB := hide hb
  clear hb HI
  go_wp2
  go_ret
  exact ⟨rfl, unhide HB⟩
theorem below_drewN {B : Nat} {w w' : World} (h : Below B w w') (n : Nat) : Below B w (w'.drewN n) := h.trans ⟨rfl, rfl, rfl, Nat.le_refl _, fun _ _ => rfl⟩
theorem cut_at {s : ByteArray} {tk u : List UInt8} (hs : s.data.toList = tk ++ u) : s.extract 0 tk.length = ⟨tk.toArray⟩ ∧ s.extract tk.length s.size = ⟨u.toArray⟩ := by
  have hl : s.data.toList.length = s.size := by simp
  constructor
  · refine WideShapes.bytes_inj ?_
    rw [ByteArray.data_extract, Array.toList_extract, hs]
    simp
  · refine WideShapes.bytes_inj ?_
    rw [ByteArray.data_extract, Array.toList_extract, hs]
    have : s.size - tk.length = u.length := by rw [hs, List.length_append] at hl; omega
    simp [this]
/-- cutToken. -/
theorem cutToken_at (s : ByteArray) (tk u : List UInt8) (w : World) (hs : s.data.toList = tk ++ u) (ht : ∀ c ∈ tk, isTok c = true) (hu : Stop u) (hz : s.size ≤ 1099511627776) :
    Calls Tryd.prog 24 #[.string s] w fun e w' => e = .returned (.tuple #[.string ⟨tk.toArray⟩, .string ⟨u.toArray⟩]) ∧ Below w.heap.size w w' := by
  have HI := hide (indexFunc32 s tk u w hs ht hu hz)
  have hlen : tk.length + u.length = s.size := by
    have := congrArg List.length hs
    simp at this
    omega
  have HS := hide hs
  clear hs ht hu
  by_cases h0 : u = []
  · have e1 : stopIdx tk u = -1 := by unfold stopIdx; rw [if_pos h0]
    rw [e1] at HI
    have HF : Hid (s = ⟨tk.toArray⟩ ∧ (⟨u.toArray⟩ : ByteArray) = ⟨#[]⟩) := hide ⟨WideShapes.bytes_inj (by rw [unhide HS, h0, List.append_nil]), by rw [h0]⟩
    clear e1 h0
    go_enter Tryd.func24, Tryd.ntmps24
    go_wp2_with fail
    refine (unhide HI).mono ?_
    rintro e W ⟨rfl, hb⟩
    have HB := hide hb
    clear hb HI
    go_wp2
    go_ret2
    refine ⟨?_, unhide HB⟩
    rw [(unhide HF).2, ← (unhide HF).1]; rfl
  · have e1 : stopIdx tk u = (tk.length : Int) := by unfold stopIdx; rw [if_neg h0]
    rw [e1] at HI
    have hle : tk.length ≤ s.size := by omega
    have HF : Hid (s.extract 0 tk.length = ⟨tk.toArray⟩ ∧ s.extract tk.length s.size = ⟨u.toArray⟩) := hide (cut_at (unhide HS))
    clear e1 h0
    go_enter Tryd.func24, Tryd.ntmps24
    go_wp2_with fail
    refine (unhide HI).mono ?_
    rintro e W ⟨rfl, hb⟩
    have HB := hide hb
    clear hb HI
    go_wp2
    go_quiet (fail)
    go_wp2
    go_ret2
    refine ⟨?_, below_drewN (unhide HB) _⟩
    rw [← (unhide HF).1, ← (unhide HF).2]; rfl
end Go.Proofs.Qxb6000905aDoor
