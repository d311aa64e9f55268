/-
  WALKS of seat b6000614aD: lexer.value.
-/
import Derived.Test.Qxb6000614aDoorW1
import Derived.Deep.RegionHeld3
set_option linter.unusedVariables false
namespace Go.Proofs.Qxb6000614aDoor
open Go.RowKit Go.Lib

/-- What lexer.value answers, and where the lexer stands. -/
def ValEnd (o : Option (List UInt8 × List UInt8)) (s : ByteArray) (b : Nat) (e : Ending) (w' : World) : Prop :=
  match o with
  | none => e = .returned (.tuple #[.string ⟨#[]⟩, .bool false]) ∧ ∃ j, Lx w' b s j ∧ j ≤ s.size
  | some x => ∃ (t : ByteArray) (j : Nat), e = .returned (.tuple #[.string t, .bool true]) ∧ t.data.toList = x.1 ∧ Lx w' b s j ∧ j ≤ s.size ∧ sfx s j = x.2

theorem noSep_has (c : UInt8) : decide (indexByte (⟨#[44, 32, 9]⟩ : ByteArray).data.toList c < 0) = noSep c := by
  have h := contains_iff_indexByte (⟨#[44, 32, 9]⟩ : ByteArray).data.toList c
  rw [sep_has] at h
  unfold noSep
  rw [h]
  by_cases hh : 0 ≤ indexByte (⟨#[44, 32, 9]⟩ : ByteArray).data.toList c
  · simp [hh, Int.not_lt.2 hh]
  · simp [hh, Int.not_le.1 hh]
theorem take_all (p : UInt8 → Bool) {sc : List UInt8} (h : ∀ c ∈ sc, p c = true) (t : List UInt8) (ht : ∀ c, t.head? = some c → p c = false) : (sc ++ t).takeWhile p = sc ∧ (sc ++ t).dropWhile p = t := by
  induction sc with
  | nil =>
    cases t with
    | nil => exact ⟨rfl, rfl⟩
    | cons c r => simp [ht c rfl]
  | cons c r ih =>
    have hc := h c (List.mem_cons_self ..)
    have := ih (fun x hx => h x (List.mem_cons_of_mem _ hx))
    simp [hc, this]

/-- The unquoted value. -/
theorem value_bare (b i : Nat) (s : ByteArray) (w : World) (hL : Lx w b s i) (hi : i ≤ s.size) (hs : s.size ≤ 1099511627776) (hq : (sfx s i).head? ≠ some 34) :
    Calls Tryd.prog 35 #[.pointer (some ⟨b, 0, none⟩)] w fun e w' => ValEnd (some ((sfx s i).takeWhile noSep, (sfx s i).dropWhile noSep)) s b e w' ∧ w.grownBy w' (some b) := by
  have HN := hide (next_no b i s 34 w hL hs hq)
  clear hL hq
  go_enter Tryd.func35, Tryd.ntmps35
  go_wp2_with fail
  refine (unhide HN).mono ?_
  rintro e w1 ⟨rfl, hL1, hg1⟩
  have HL := hide hL1
  have HG1 := hide hg1
  have hc1 := hL1.c1
  clear hL1 hg1
  go_wp2
  go_loopw [] (fun wr => ∃ j : Nat, i ≤ j ∧ j ≤ s.size ∧ Hid (Lx wr b s j) ∧ Hid (w.grownBy wr (some b)) ∧ Hid (∃ t, sfx s i = t ++ sfx s j ∧ ∀ c ∈ t, noSep c = true)) (fun wr => s.size - lxI wr b)
  case atStart => exact ⟨i, Nat.le_refl _, hi, HL, HG1, hide ⟨[], rfl, by simp⟩⟩
  case round =>
    obtain ⟨j, hij, hj, HLj, HG, HS⟩ := hrel
    clear hc1
    have hc0 := (unhide HLj).c0
    have hc1 := (unhide HLj).c1
    have hf1 := (unhide HLj).f1
    have HO : ∀ n m, (sfx s j).head?.all (fun c => !noSep c) = true → ValEnd (some ((sfx s i).takeWhile noSep, (sfx s i).dropWhile noSep)) s b (.returned (.tuple #[.string (s.extract i j), .bool true])) ((wr.drewN n).drewN m) ∧ w.grownBy ((wr.drewN n).drewN m) (some b) := by
      intro n m hh
      obtain ⟨t, ht, hall⟩ := unhide HS
      have hk := take_all noSep hall (sfx s j) (by intro c hc; rw [hc] at hh; simpa using hh)
      rw [← ht] at hk
      exact ⟨⟨_, j, rfl, by simp only; rw [hk.1]; exact sfx_cut s i j hij hj t ht, unhide HLj, hj, hk.2.symm⟩, ((unhide HG).trans (grown_drewN _ _ _)).trans (grown_drewN _ _ _)⟩
    have HO := hide HO
    by_cases hlt : j < s.size
    · have HQ := hide (fun wx => Tryd.strings_IndexByte ⟨#[44, 32, 9]⟩ (s[j].toNat : Int) wx)
      have HI := hide (noSep_has s[j])
      have hb8 : (((s[j].toNat : Nat) : Int)).toNat.toUInt8 = s[j] := by simp
      rw [hb8] at HQ
      have H8 := hide hb8
      clear hb8
      generalize indexByte (⟨#[44, 32, 9]⟩ : ByteArray).data.toList s[j] = r at HQ HI
      by_cases hr : r < 0
      · have HR := hide hr
        go_wp2
        go_quiet ((go_at_call 36; exact Calls.quiet_of_same (unhide HQ _)))
        go_wp2
        go_roundw
        case rel =>
          refine ⟨j + 1, by omega, hlt, hide ((unhide HLj).setq _), hide ((unhide HG).trans (grown_setq _ _ _ _ _)), hide ?_⟩
          obtain ⟨t, ht, hall⟩ := unhide HS
          refine ⟨t ++ [s[j]], by rw [ht, sfx_cons s j hlt]; simp, ?_⟩
          intro c hc
          rcases List.mem_append.1 hc with h | h
          · exact hall c h
          · rw [List.mem_singleton.1 h, ← unhide HI]; simpa using unhide HR
        case measure =>
          rw [lxI_of (unhide HLj), lxI_of ((unhide HLj).setq _)]
          omega
      · have hrd : decide (r < (0 : Int)) = false := by simpa using hr
        have HR := hide hrd
        go_wp2
        go_quiet ((go_at_call 36; exact Calls.quiet_of_same (unhide HQ _)))
        go_wp2
        go_quiet (fail)
        go_wp2
        go_ret2
        exact unhide HO _ _ (by rw [sfx_cons s j hlt]; simp [← unhide HI, unhide HR])
    · have hd : decide ((j : Int) < (s.size : Int)) = false := by simp; omega
      go_wp2
      go_quiet (fail)
      go_wp2
      go_quiet (fail)
      go_wp2
      go_ret2
      exact unhide HO _ _ (by rw [sfx_end s j (by omega)]; rfl)
end Go.Proofs.Qxb6000614aDoor
