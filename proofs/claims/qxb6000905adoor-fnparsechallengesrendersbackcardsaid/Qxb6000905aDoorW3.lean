/-
  WALKS of seat b6000905aD: cutValue at a quoted string.
-/
import Derived.Test.Qxb6000905aDoorW2
import Derived.Deep.RegionHeld3
import Derived.Laws.BitsLemmas
set_option linter.unusedVariables false
namespace Go.Proofs.Qxb6000905aDoor
open Go.RowKit Go.Lib

theorem builder_lt {T e : TypeId} {B bb : Nat} {bs : List Value} {w : World} (h : IsBuilderF T e B bb bs w) : bb < w.heap.size := h.elim (fun x => x.lt) (fun x => x.lt)
theorem byteCells_snoc (l : List UInt8) (c : UInt8) : byteCells l ++ [.int .u8 c.toNat] = byteCells (l ++ [c]) := by simp [byteCells]
theorem byteCells_len (l : List UInt8) : (byteCells l).length = l.length := by simp [byteCells]
theorem builder_drewN {T e : TypeId} {B bb : Nat} {bs : List Value} {w : World} (h : IsBuilderF T e B bb bs w) (n : Nat) : IsBuilderF T e B bb bs (w.drewN n) := h
theorem write_byte (N : Nat) (acc : List UInt8) (c : UInt8) (w0 w : World) (h : IsBuilderF 67 5 N N (byteCells acc) w) (hacc : acc.length ≤ 1099511627776) (hb : Below N w0 w) :
    Calls Tryd.prog 37 #[.pointer (some ⟨N, 0, none⟩), .int .u8 c.toNat] w fun e w' => e = .returned .nilIface ∧ IsBuilderF 67 5 N N (byteCells (acc ++ [c])) w' ∧ Below N w0 w' := by
  refine (Tryd.Builder_WriteByte_k N N (byteCells acc) c.toNat w h (by rw [byteCells_len]; omega) (Nat.le_of_lt (builder_lt h))).mono ?_
  rintro e w' ⟨rfl, h1, h2, _⟩
  rw [byteCells_snoc] at h1
  exact ⟨rfl, .inr h1, hb.trans h2⟩
theorem read_str (N : Nat) (acc : List UInt8) (w0 w : World) (h : IsBuilderF 67 5 N N (byteCells acc) w) (hb : Below N w0 w) :
    Calls Tryd.prog 38 #[.pointer (some ⟨N, 0, none⟩)] w fun e w' => e = .returned (.string ⟨acc.toArray⟩) ∧ Below N w0 w' := by
  refine (Tryd.Builder_String_any_k N N acc w h (Nat.le_of_lt (builder_lt h))).mono ?_
  rintro e w' ⟨rfl, _, h2, _⟩
  exact ⟨rfl, hb.trans h2⟩
theorem ext_from (t : ByteArray) (i : Nat) : t.extract i t.size = ⟨(sfx t i).toArray⟩ := by
  refine WideShapes.bytes_inj ?_
  rw [ByteArray.data_extract, Array.toList_extract]
  have h : t.data.toList.length = t.size := by simp
  show (t.data.toList.drop i).take (t.size - i) = _
  rw [List.take_of_length_le (by rw [List.length_drop, h]; exact Nat.le_refl _)]
  rfl
theorem pre34 (s : ByteArray) (h : s.data.toList.head? = some 34) : hasPrefix s.data.toList (⟨#[34]⟩ : ByteArray).data.toList = true := by
  cases hl : s.data.toList with
  | nil => rw [hl] at h; cases h
  | cons a r => rw [hl] at h; simp at h; subst h; simp [hasPrefix]
theorem wrap_id {x : Int} (h0 : 0 ≤ x) (h1 : x ≤ 9223372036854775807) : IntKind.i64.wrap x = x := by
  rw [IntKind.wrap_i64]
  omega
def retVal (x : List UInt8 × List UInt8) : Ending := .returned (.tuple #[.string ⟨x.1.toArray⟩, .string ⟨x.2.toArray⟩])

set_option maxHeartbeats 1000000 in
set_option maxRecDepth 100000 in
theorem cutValue_q (s : ByteArray) (w : World) (hq : s.data.toList.head? = some 34) (hz : s.size ≤ 1099511627776) :
    Calls Tryd.prog 27 #[.string s] w fun e w' => e = retVal (qv [] s.data.toList.tail) ∧ Below w.heap.size w w' := by
  have HP := hide (Tryd.strings_HasPrefix s ⟨#[34]⟩ w)
  rw [pre34 s hq] at HP
  have H0 := hide (show s.data.toList.tail = sfx s 1 by unfold sfx; rw [List.drop_one])
  have h1 : 1 ≤ s.size := by
    cases hl : s.data.toList with
    | nil => rw [hl] at hq; cases hq
    | cons a r => have := congrArg List.length hl; simp at this; omega
  clear hq
  go_enter Tryd.func27, Tryd.ntmps27
  go_wp2_with fail
  refine (unhide HP).mono ?_
  rintro e W ⟨rfl, hw⟩
  have hw2 := hw.symm; subst hw2
  clear hw HP
  go_wp2
  go_loopw [6] (fun k wr => ∃ (i : Nat) (acc : List UInt8), i ≤ s.size ∧ k = .int .i64 i ∧ acc.length ≤ i ∧ Hid (IsBuilderF 67 5 w.heap.size w.heap.size (byteCells acc) wr) ∧ Hid (Below w.heap.size w wr) ∧ Hid (qv [] s.data.toList.tail = qv acc (sfx s i))) (fun k _ => s.size - (RowKit.intOf k).toNat)
  case atStart => exact ⟨1, [], h1, rfl, Nat.zero_le _, hide (IsBuilderF.of (fresh_isBuilder 67 5 w)), hide ((Below.refl _ _).alloc (Nat.le_refl _) _), hide (by rw [unhide H0])⟩
  case round =>
    obtain ⟨i, acc, hi, rfl, hacc, HB, HG, HS⟩ := hrel
    by_cases hlt : i < s.size
    · by_cases h34 : s[i] = 34
      · have hq34 : ((s[i].toNat : Int) == 34) = true := by rw [h34]; rfl
        have HV := hide (show qv [] s.data.toList.tail = (acc, sfx s (i + 1)) by rw [unhide HS, sfx_cons s i hlt, h34, qv_end])
        clear h34
        have hlti : (i : Int) + 1 ≤ (s.size : Int) := by omega
        have h0i : 0 ≤ (i : Int) + 1 := by omega
        have hwr : IntKind.i64.wrap ((i : Int) + 1) = (i : Int) + 1 := wrap_id (by omega) (by omega)
        have hsl : ∀ W, (Instr.slice 9 (.string s) (some (.int .i64 ((i : Int) + 1))) none none).run Tryd.prog W = .ok (.string (s.extract (i + 1) s.size)) W := fun W => by
          have e := run_slice_string_l (P := Tryd.prog) W 9 s Tryd.underlying9 .i64 ((i : Int) + 1) h0i hlti
          rw [e]
          have : ((i : Int) + 1).toNat = i + 1 := by omega
          rw [this]
        have HBd : Hid (IsBuilderF 67 5 w.heap.size w.heap.size (byteCells acc) wr.drew) := unhide HB
        have HGd : Hid (Below w.heap.size w wr.drew) := hide ((unhide HG).drew)
        go_wp2_with fail
        go_region_held3 (fun w' => True) (trivial) ((go_at_call 38; refine (read_str w.heap.size acc w _ (unhide HBd) (unhide HGd)).mono ?_; rintro e w2 ⟨rfl, hg4⟩; have HG4 := hide hg4))
        go_wp2
        go_ret2
        refine ⟨?_, unhide HG4⟩
        have he := ext_from s (i + 1)
        rw [unhide HV]
        unfold retVal
        simp only
        rw [← he]; rfl
      · have hq34 : ((s[i].toNat : Int) == 34) = false := beqf (fun h => h34 (UInt8.toNat_inj.1 (Int.ofNat.inj h)))
        by_cases h92 : s[i] = 92
        · have hq92 : ((s[i].toNat : Int) == 92) = true := by rw [h92]; rfl
          by_cases hlt2 : i + 1 < s.size
          · have hlt2i : (i : Int) + 1 < (s.size : Int) := by omega
            have HV := hide (show qv [] s.data.toList.tail = qv (acc ++ [s[i + 1]]) (sfx s (i + 2)) by
              rw [unhide HS, sfx_cons s i hlt, h92, sfx_cons s (i + 1) hlt2, qv_bs])
            clear h92 h34
            go_wp2_with fail
            refine (write_byte w.heap.size acc s[i + 1] w wr (unhide HB) (by omega) (unhide HG)).mono ?_
            rintro e w2 ⟨rfl, hB4, hg4⟩
            have HB4 := hide hB4
            have HG4 := hide hg4
            clear hB4 hg4
            go_wp2
            go_roundw
            case rel => exact ⟨i + 2, acc ++ [s[i + 1]], hlt2, by go_num, by simp; omega, HB4, HG4, HV⟩
            case measure => simp [RowKit.intOf]; omega
          · have hlt2i : ¬ (i : Int) + 1 < (s.size : Int) := by omega
            have HV := hide (show qv [] s.data.toList.tail = qv (acc ++ [s[i]]) (sfx s (i + 1)) by
              rw [unhide HS, sfx_cons s i hlt, h92, sfx_end s (i + 1) (by omega), qv_bs0, qv_nil])
            clear h92 h34
            go_wp2_with fail
            refine (write_byte w.heap.size acc s[i] w wr (unhide HB) (by omega) (unhide HG)).mono ?_
            rintro e w2 ⟨rfl, hB4, hg4⟩
            have HB4 := hide hB4
            have HG4 := hide hg4
            clear hB4 hg4
            go_wp2
            go_roundw
            case rel => exact ⟨i + 1, acc ++ [s[i]], hlt, by go_num, by simp; omega, HB4, HG4, HV⟩
            case measure => simp [RowKit.intOf]; omega
        · have hq92 : ((s[i].toNat : Int) == 92) = false := beqf (fun h => h92 (UInt8.toNat_inj.1 (Int.ofNat.inj h)))
          have HV := hide (show qv [] s.data.toList.tail = qv (acc ++ [s[i]]) (sfx s (i + 1)) by
            rw [unhide HS, sfx_cons s i hlt, qv_byte _ _ _ h34 h92])
          clear h92 h34
          go_wp2_with fail
          refine (write_byte w.heap.size acc s[i] w wr (unhide HB) (by omega) (unhide HG)).mono ?_
          rintro e w2 ⟨rfl, hB4, hg4⟩
          have HB4 := hide hB4
          have HG4 := hide hg4
          clear hB4 hg4
          go_wp2
          go_roundw
          case rel => exact ⟨i + 1, acc ++ [s[i]], hlt, by go_num, by simp; omega, HB4, HG4, HV⟩
          case measure => simp [RowKit.intOf]; omega
    · go_wp2_with fail
      refine (read_str w.heap.size acc w wr (unhide HB) (unhide HG)).mono ?_
      rintro e w2 ⟨rfl, hg4⟩
      have HG4 := hide hg4
      clear hg4
      go_wp2
      go_ret2
      refine ⟨?_, unhide HG4⟩
      rw [unhide HS, sfx_end s i (by omega), qv_nil]; rfl
end Go.Proofs.Qxb6000905aDoor
