/-
  WALKS of seat b6000614aD: isTokenByte; the lexer's next, skip, token.
-/
import Derived.Test.Qxb6000614aDoorProg
import Derived.Test.Qxb6000614aDoorPlain
import Derived.Test.Qxb6000614aDoorSh
import Derived.WalkKit
import Derived.Deep.Light
import Derived.WalkSpells
import Derived.WalkLawsBesides
import Derived.Deep.QuietTactic
import Derived.BigQuiet
import Derived.Lib.IndexAny
set_option linter.unusedVariables false
namespace Go.Proofs.Qxb6000614aDoor
open Go.RowKit Go.Lib

theorem hide {p : Prop} (h : p) : Hid p := h
theorem unhide {p : Prop} (h : Hid p) : p := h.out
theorem beqf {a b : Int} (h : ¬ a = b) : (a == b) = false := beq_eq_false_iff_ne.2 h

def specials : List UInt8 := [33, 35, 36, 37, 38, 39, 42, 43, 45, 46, 94, 95, 96, 124, 126]
theorem isTok_specials (c : UInt8) : isTok c = ((97 ≤ c.toNat && c.toNat ≤ 122) || (65 ≤ c.toNat && c.toNat ≤ 90) || (48 ≤ c.toNat && c.toNat ≤ 57) || specials.contains c) := by
  have key : ∀ i : Fin 256, isTok (UInt8.ofNat i.val) = ((97 ≤ (UInt8.ofNat i.val).toNat && (UInt8.ofNat i.val).toNat ≤ 122) || (65 ≤ (UInt8.ofNat i.val).toNat && (UInt8.ofNat i.val).toNat ≤ 90) || (48 ≤ (UInt8.ofNat i.val).toNat && (UInt8.ofNat i.val).toNat ≤ 57) || specials.contains (UInt8.ofNat i.val)) := by decide +kernel
  have := key ⟨c.toNat, UInt8.toNat_lt c⟩
  simpa only [UInt8.ofNat_toNat] using this

theorem tb_call (x : Int) (w : World) (h0 : 0 ≤ x) (h1 : x < 256) (hd : 122 < x ∨ (90 < x ∧ x < 97) ∨ (57 < x ∧ x < 65) ∨ x < 48) :
    Calls Tryd.prog 37 #[.int .u8 x] w fun e w' => e = .returned (.bool (decide (0 ≤ indexByte specials x.toNat.toUInt8))) ∧ w' = w := by
  have hc := Tryd.strings_IndexByte ⟨#[33, 35, 36, 37, 38, 39, 42, 43, 45, 46, 94, 95, 96, 124, 126]⟩ x w
  have hl : (⟨#[33, 35, 36, 37, 38, 39, 42, 43, 45, 46, 94, 95, 96, 124, 126]⟩ : ByteArray).data.toList = specials := rfl
  rw [hl] at hc
  generalize indexByte specials x.toNat.toUInt8 = r at hc
  have HC := hide hc
  clear hc hl
  rcases hd with hd | hd | hd | hd
  all_goals
    go_enter Tryd.func37, Tryd.ntmps37
    go_wp2_with fail
    refine (unhide HC).mono ?_
    rintro e w' ⟨rfl, hw⟩
    have hw2 := hw.symm; subst hw2
    go_wp2
    go_ret
    refine ⟨?_, rfl⟩
    first | rfl | (simp; omega)
theorem tb_true (x : Int) (w : World) (hd : (97 ≤ x ∧ x ≤ 122) ∨ (65 ≤ x ∧ x ≤ 90) ∨ (48 ≤ x ∧ x ≤ 57)) :
    Calls Tryd.prog 37 #[.int .u8 x] w fun e w' => e = .returned (.bool true) ∧ w' = w := by
  rcases hd with ⟨hd, hd'⟩ | ⟨hd, hd'⟩ | ⟨hd, hd'⟩
  all_goals
    go_enter Tryd.func37, Tryd.ntmps37
    go_wp2
    go_ret
    exact ⟨rfl, rfl⟩
theorem isTokenByte_any (c : UInt8) (w : World) :
    Calls Tryd.prog 37 #[.int .u8 c.toNat] w fun e w' => e = .returned (.bool (isTok c)) ∧ w' = w := by
  have hlt := UInt8.toNat_lt c
  rw [isTok_specials]
  by_cases h : (97 ≤ c.toNat ∧ c.toNat ≤ 122) ∨ (65 ≤ c.toNat ∧ c.toNat ≤ 90) ∨ (48 ≤ c.toNat ∧ c.toNat ≤ 57)
  · have : ((97 ≤ c.toNat && c.toNat ≤ 122) || (65 ≤ c.toNat && c.toNat ≤ 90) || (48 ≤ c.toNat && c.toNat ≤ 57) || specials.contains c) = true := by
      rcases h with ⟨h, h'⟩ | ⟨h, h'⟩ | ⟨h, h'⟩ <;> simp [h, h']
    rw [this]
    exact tb_true _ w (by omega)
  · have e1 : (97 ≤ c.toNat && c.toNat ≤ 122) = false := by simp; omega
    have e2 : (65 ≤ c.toNat && c.toNat ≤ 90) = false := by simp; omega
    have e3 : (48 ≤ c.toNat && c.toNat ≤ 57) = false := by simp; omega
    rw [e1, e2, e3, Bool.false_or, Bool.false_or, Bool.false_or, contains_iff_indexByte]
    have := tb_call c.toNat w (by omega) (by omega) (by omega)
    simpa using this

/-- The lexer in memory. -/
def Lx (w : World) (b : Nat) (s : ByteArray) (i : Nat) : Prop := w.heap[b]? = some (.cells #[.string s, .int .i64 i] 52 (0, 0))
theorem Lx.c0 {w : World} {b i : Nat} {s : ByteArray} (h : Lx w b s i) : w.cell? ⟨b, 0, none⟩ = some (.string s) := by unfold Lx at h; simp [World.cell?, h]
theorem Lx.c1 {w : World} {b i : Nat} {s : ByteArray} (h : Lx w b s i) : w.cell? ⟨b, 1, none⟩ = some (.int .i64 i) := by unfold Lx at h; simp [World.cell?, h]
theorem Lx.f1 {w : World} {b i : Nat} {s : ByteArray} (h : Lx w b s i) : w.frozen? ⟨b, 1, none⟩ = false := by unfold Lx at h; simp [World.frozen?, h]
theorem Lx.lt {w : World} {b i : Nat} {s : ByteArray} (h : Lx w b s i) : b < w.heap.size := (Array.getElem?_eq_some_iff.1 h).1
theorem Lx.set {w : World} {b i : Nat} {s : ByteArray} (h : Lx w b s i) (j : Nat) : Lx (w.setCell ⟨b, 1, none⟩ (.int .i64 j)) b s j := by
  unfold Lx at h ⊢
  simp [World.setCell, Array.getElem?_modify, h]
theorem Lx.below {w w' : World} {b i B : Nat} {s : ByteArray} (h : Lx w b s i) (hb : Below B w w') (hB : b < B) : Lx w' b s i := (hb.block b hB).trans h
theorem grown_set (w : World) (b o : Nat) (v : Value) : w.grownBy (w.setCell ⟨b, o, none⟩ v) (some b) :=
  ⟨rfl, rfl, rfl, by simp [World.setCell], fun k _ hk => Below.heap_setCell _ _ _ _ (fun e => hk (by simp [e]))⟩
theorem grown_refl (w : World) (b : Option Nat) : w.grownBy w b := ⟨rfl, rfl, rfl, Nat.le_refl _, fun _ _ _ => rfl⟩
theorem grown_drewN (w : World) (n : Nat) (b : Option Nat) : w.grownBy (w.drewN n) b := ⟨rfl, rfl, rfl, Nat.le_refl _, fun _ _ _ => rfl⟩

theorem Lx.setq {w : World} {b i : Nat} {s : ByteArray} (h : Lx w b s i) (n : Nat) : Lx ((w.drewN n).setCell ⟨b, 1, none⟩ (.int .i64 ((i : Int) + 1))) b s (i + 1) := by
  have h' : Lx (w.drewN n) b s i := h
  exact h'.set (i + 1)
theorem Lx.seti {w : World} {b i : Nat} {s : ByteArray} (h : Lx w b s i) : Lx (w.setCell ⟨b, 1, none⟩ (.int .i64 ((i : Int) + 1))) b s (i + 1) := h.set (i + 1)
theorem grown_setq (w : World) (n b o : Nat) (v : Value) : w.grownBy ((w.drewN n).setCell ⟨b, o, none⟩ v) (some b) := (grown_drewN w n (some b)).trans (grown_set _ b o v)

/-- The text from i on. -/
def sfx (s : ByteArray) (i : Nat) : List UInt8 := s.data.toList.drop i

theorem sfx_cons (s : ByteArray) (i : Nat) (h : i < s.size) : sfx s i = s[i] :: sfx s (i + 1) := by
  unfold sfx
  have hl : i < s.data.toList.length := by simpa using h
  rw [List.drop_eq_getElem_cons hl]
  rfl
theorem sfx_end (s : ByteArray) (i : Nat) (h : s.size ≤ i) : sfx s i = [] := by
  unfold sfx
  exact List.drop_eq_nil_of_le (by simpa using h)

/-- lexer.next(c). -/
theorem next_yes (b i : Nat) (s : ByteArray) (c : UInt8) (w : World) (hL : Lx w b s i) (hs : s.size ≤ 1099511627776) (hc : (sfx s i).head? = some c) :
    Calls Tryd.prog 34 #[.pointer (some ⟨b, 0, none⟩), .int .u8 c.toNat] w fun e w' => e = .returned (.bool true) ∧ (Lx w' b s (i + 1) ∧ i + 1 ≤ s.size ∧ sfx s (i + 1) = (sfx s i).tail) ∧ w.grownBy w' (some b) := by
  have hi : i < s.size := by
    rcases Nat.lt_or_ge i s.size with h | h
    · exact h
    · rw [sfx_end s i h] at hc; cases hc
  have hcc := sfx_cons s i hi
  have htl : sfx s (i + 1) = (sfx s i).tail := by rw [hcc]; rfl
  rw [hcc] at hc
  have hq : ((s[i].toNat : Int) == (c.toNat : Int)) = true := by
    simp only [List.head?_cons, Option.some.injEq] at hc
    rw [hc]; simp
  have hc0 := hL.c0
  have hc1 := hL.c1
  have hf1 := hL.f1
  have HL := hide hL
  have HT := hide htl
  clear hcc hc htl hL
  go_enter Tryd.func34, Tryd.ntmps34
  go_wp2
  go_quiet (fail)
  go_wp2
  go_ret
  refine ⟨rfl, ⟨?_, hi, unhide HT⟩, ?_⟩
  · exact (unhide HL).setq _
  · exact grown_setq _ _ _ _ _
theorem next_no (b i : Nat) (s : ByteArray) (c : UInt8) (w : World) (hL : Lx w b s i) (hs : s.size ≤ 1099511627776) (hc : (sfx s i).head? ≠ some c) :
    Calls Tryd.prog 34 #[.pointer (some ⟨b, 0, none⟩), .int .u8 c.toNat] w fun e w' => e = .returned (.bool false) ∧ Lx w' b s i ∧ w.grownBy w' (some b) := by
  have hc0 := hL.c0
  have hc1 := hL.c1
  have HL := hide hL
  clear hL
  by_cases hi : i < s.size
  · rw [sfx_cons s i hi] at hc
    have hq : ((s[i].toNat : Int) == (c.toNat : Int)) = false := by
      simp only [List.head?_cons, ne_eq, Option.some.injEq] at hc
      refine beqf fun h => hc ?_
      exact UInt8.toNat_inj.1 (by omega)
    clear hc
    go_enter Tryd.func34, Tryd.ntmps34
    go_wp2
    go_quiet (fail)
    go_wp2
    go_ret
    exact ⟨rfl, unhide HL, grown_drewN w _ _⟩
  · have hd : decide ((i : Int) < (s.size : Int)) = false := by simp; omega
    clear hc
    go_enter Tryd.func34, Tryd.ntmps34
    go_wp2
    go_quiet (fail)
    go_wp2
    go_ret
    exact ⟨rfl, unhide HL, grown_drewN w _ _⟩

/-- Where the lexer stands: for a loop's measure. -/
def lxI (w : World) (b : Nat) : Nat := match w.cell? ⟨b, 1, none⟩ with | some (.int _ i) => i.toNat | _ => 0
theorem lxI_of {w : World} {b i : Nat} {s : ByteArray} (h : Lx w b s i) : lxI w b = i := by unfold lxI; rw [h.c1]; simp

/-- lexer.skip(set). -/
theorem skip_any (st : ByteArray) (p : UInt8 → Bool) (hp : ∀ c, st.data.toList.contains c = p c) (b i : Nat) (s : ByteArray) (w : World) (hL : Lx w b s i) (hi : i ≤ s.size) (hs : s.size ≤ 1099511627776) :
    Calls Tryd.prog 31 #[.pointer (some ⟨b, 0, none⟩), .string st] w fun e w' => e = .returned (.tuple #[]) ∧ (∃ j, Lx w' b s j ∧ j ≤ s.size ∧ sfx s j = (sfx s i).dropWhile p) ∧ w.grownBy w' (some b) := by
  have HL := hide hL
  clear hL
  have HP := hide hp
  clear hp
  go_enter Tryd.func31, Tryd.ntmps31
  go_wp2
  go_loopw [] (fun wr => ∃ j : Nat, j ≤ s.size ∧ Hid (Lx wr b s j) ∧ Hid (w.grownBy wr (some b)) ∧ Hid ((sfx s i).dropWhile p = (sfx s j).dropWhile p)) (fun wr => s.size - lxI wr b)
  case atStart => exact ⟨i, hi, HL, hide (grown_refl _ _), hide rfl⟩
  case round =>
    obtain ⟨j, hj, HLj, HG, HS⟩ := hrel
    have hc0 := (unhide HLj).c0
    have hc1 := (unhide HLj).c1
    have hf1 := (unhide HLj).f1
    by_cases hlt : j < s.size
    · have HQ := hide (fun wx => Tryd.strings_IndexByte st (s[j].toNat : Int) wx)
      have HI := hide (contains_iff_indexByte st.data.toList s[j])
      have hb8 : (((s[j].toNat : Nat) : Int)).toNat.toUInt8 = s[j] := by simp
      rw [hb8] at HQ
      have H8 := hide hb8
      clear hb8
      generalize indexByte st.data.toList s[j] = r at HQ HI
      by_cases hr : (0 : Int) ≤ r
      · go_wp2
        go_quiet ((go_at_call 36; exact Calls.quiet_of_same (unhide HQ _)))
        go_wp2
        go_roundw
        case rel =>
          refine ⟨j + 1, hlt, hide ((unhide HLj).setq _), hide ((unhide HG).trans (grown_setq _ _ _ _ _)), hide ?_⟩
          rw [unhide HS, sfx_cons s j hlt, List.dropWhile_cons, if_pos]
          rw [← unhide HP, unhide HI]; simpa using hr
        case measure =>
          rw [lxI_of (unhide HLj), lxI_of ((unhide HLj).setq _)]
          omega
      · have hrd : decide ((0 : Int) ≤ r) = false := by simpa using hr
        go_wp2
        go_quiet ((go_at_call 36; exact Calls.quiet_of_same (unhide HQ _)))
        go_wp2
        go_end0
        refine ⟨rfl, ⟨j, unhide HLj, hj, ?_⟩, (unhide HG).trans (grown_drewN _ _ _)⟩
        rw [unhide HS, sfx_cons s j hlt, List.dropWhile_cons, if_neg]
        rw [← unhide HP, unhide HI]; simpa using hr
    · have hd : decide ((j : Int) < (s.size : Int)) = false := by simp; omega
      go_wp2
      go_quiet (fail)
      go_wp2
      go_end0
      refine ⟨rfl, ⟨j, unhide HLj, hj, ?_⟩, (unhide HG).trans (grown_drewN _ _ _)⟩
      rw [unhide HS, sfx_end s j (by omega)]; rfl

theorem ws_has : ∀ c : UInt8, (⟨#[32, 9]⟩ : ByteArray).data.toList.contains c = isWs c := by
  intro c; simp [isWs]; rfl
theorem sep_has : ∀ c : UInt8, (⟨#[44, 32, 9]⟩ : ByteArray).data.toList.contains c = isSep c := by
  intro c; simp [isSep, Bool.or_assoc]; rfl
theorem skip_ws (b i : Nat) (s : ByteArray) (w : World) (hL : Lx w b s i) (hi : i ≤ s.size) (hs : s.size ≤ 1099511627776) :
    Calls Tryd.prog 31 #[.pointer (some ⟨b, 0, none⟩), .string ⟨#[32, 9]⟩] w fun e w' => e = .returned (.tuple #[]) ∧ (∃ j, Lx w' b s j ∧ j ≤ s.size ∧ sfx s j = (sfx s i).dropWhile isWs) ∧ w.grownBy w' (some b) :=
  skip_any _ _ ws_has b i s w hL hi hs
theorem skip_sep (b i : Nat) (s : ByteArray) (w : World) (hL : Lx w b s i) (hi : i ≤ s.size) (hs : s.size ≤ 1099511627776) :
    Calls Tryd.prog 31 #[.pointer (some ⟨b, 0, none⟩), .string ⟨#[44, 32, 9]⟩] w fun e w' => e = .returned (.tuple #[]) ∧ (∃ j, Lx w' b s j ∧ j ≤ s.size ∧ sfx s j = (sfx s i).dropWhile isSep) ∧ w.grownBy w' (some b) :=
  skip_any _ _ sep_has b i s w hL hi hs

/-- What lies between two places of the text. -/
theorem sfx_cut (s : ByteArray) (i j : Nat) (hij : i ≤ j) (hj : j ≤ s.size) (t : List UInt8) (h : sfx s i = t ++ sfx s j) : (s.extract i j).data.toList = t := by
  have hl : s.data.toList.length = s.size := by simp
  have e : (s.extract i j).data.toList = (sfx s i).take (j - i) := by
    unfold sfx
    rw [ByteArray.data_extract, Array.toList_extract]
  rw [e, h]
  have : t.length = j - i := by
    have := congrArg List.length h
    unfold sfx at this
    rw [List.length_append, List.length_drop, List.length_drop, hl] at this
    omega
  rw [← this, List.take_left' rfl]

/-- lexer.token(). -/
theorem token_any (b i : Nat) (s : ByteArray) (w : World) (hL : Lx w b s i) (hi : i ≤ s.size) (hs : s.size ≤ 1099511627776) :
    Calls Tryd.prog 32 #[.pointer (some ⟨b, 0, none⟩)] w fun e w' => (∃ t : ByteArray, e = .returned (.string t) ∧ t.data.toList = (sfx s i).takeWhile isTok) ∧ (∃ j, Lx w' b s j ∧ j ≤ s.size ∧ sfx s j = (sfx s i).dropWhile isTok) ∧ w.grownBy w' (some b) := by
  have HL := hide hL
  have hc1 := hL.c1
  clear hL
  go_enter Tryd.func32, Tryd.ntmps32
  go_wp2
  go_loopw [] (fun wr => ∃ j : Nat, i ≤ j ∧ j ≤ s.size ∧ Hid (Lx wr b s j) ∧ Hid (w.grownBy wr (some b)) ∧ Hid (∃ t, sfx s i = t ++ sfx s j ∧ ∀ c ∈ t, isTok c = true)) (fun wr => s.size - lxI wr b)
  case atStart => exact ⟨i, Nat.le_refl _, hi, HL, hide (grown_refl _ _), hide ⟨[], rfl, by simp⟩⟩
  case round =>
    obtain ⟨j, hij, hj, HLj, HG, HS⟩ := hrel
    clear hc1
    have hc0 := (unhide HLj).c0
    have hc1 := (unhide HLj).c1
    have hf1 := (unhide HLj).f1
    have HO : ∀ n m, (sfx s j).head?.all (fun c => !isTok c) = true → (∃ t : ByteArray, (Ending.returned (.string (s.extract i j))) = .returned (.string t) ∧ t.data.toList = (sfx s i).takeWhile isTok) ∧ (∃ k, Lx ((wr.drewN n).drewN m) b s k ∧ k ≤ s.size ∧ sfx s k = (sfx s i).dropWhile isTok) ∧ w.grownBy ((wr.drewN n).drewN m) (some b) := by
      intro n m hh
      obtain ⟨t, ht, hall⟩ := unhide HS
      have hk := take_tok hall (sfx s j) (by intro c hc; rw [hc] at hh; simpa using hh)
      rw [← ht] at hk
      exact ⟨⟨_, rfl, by rw [hk.1]; exact sfx_cut s i j hij hj t ht⟩, ⟨j, unhide HLj, hj, hk.2.symm⟩, ((unhide HG).trans (grown_drewN _ _ _)).trans (grown_drewN _ _ _)⟩
    have HO := hide HO
    by_cases hlt : j < s.size
    · have HQ := hide (fun wx => isTokenByte_any s[j] wx)
      by_cases hr : isTok s[j] = true
      · rw [hr] at HQ
        have HR := hide hr
        clear hr
        go_wp2
        go_quiet ((go_at_call 37; exact Calls.quiet_of_same (unhide HQ _)))
        go_wp2
        go_roundw
        case rel =>
          refine ⟨j + 1, by omega, hlt, hide ((unhide HLj).setq _), hide ((unhide HG).trans (grown_setq _ _ _ _ _)), hide ?_⟩
          obtain ⟨t, ht, hall⟩ := unhide HS
          refine ⟨t ++ [s[j]], by rw [ht, sfx_cons s j hlt]; simp, ?_⟩
          intro c hc
          rcases List.mem_append.1 hc with h | h
          · exact hall c h
          · rw [List.mem_singleton.1 h]; exact unhide HR
        case measure =>
          rw [lxI_of (unhide HLj), lxI_of ((unhide HLj).setq _)]
          omega
      · have hrf : isTok s[j] = false := by simpa using hr
        clear hr
        rw [hrf] at HQ
        have HR := hide hrf
        clear hrf
        go_wp2
        go_quiet ((go_at_call 37; exact Calls.quiet_of_same (unhide HQ _)))
        go_wp2
        go_quiet (fail)
        go_wp2
        go_ret
        exact unhide HO _ _ (by rw [sfx_cons s j hlt]; simp [unhide HR])
    · have hd : decide ((j : Int) < (s.size : Int)) = false := by simp; omega
      go_wp2
      go_quiet (fail)
      go_wp2
      go_quiet (fail)
      go_wp2
      go_ret
      exact unhide HO _ _ (by rw [sfx_end s j (by omega)]; rfl)
end Go.Proofs.Qxb6000614aDoor
