/-
  WALKS of seat b6000614aD: parseChallenges at one header.
-/
import Derived.Test.Qxb6000614aDoorW4
import Derived.Deep.CutBlock
set_option linter.unusedVariables false
namespace Go.Proofs.Qxb6000614aDoor
open Go.RowKit Go.Lib

theorem sfx_len (s : ByteArray) (i : Nat) : (sfx s i).length = s.size - i := by unfold sfx; simp
theorem pos_le {s : ByteArray} {i j : Nat} {p : UInt8 → Bool} (hi : i ≤ s.size) (hj : j ≤ s.size) (h : sfx s j = (sfx s i).dropWhile p) : i ≤ j := by
  have h1 := dropWhile_le p (sfx s i)
  rw [← h, sfx_len, sfx_len] at h1
  omega
theorem mem_takeWhile {p : UInt8 → Bool} {c : UInt8} : ∀ {l : List UInt8}, c ∈ l.takeWhile p → p c = true
  | [], h => by cases h
  | a :: l, h => by
    rw [List.takeWhile_cons] at h
    split at h
    · rename_i ha
      rcases List.mem_cons.1 h with rfl | h
      · exact ha
      · exact mem_takeWhile h
    · cases h
theorem tok_ascii {t : ByteArray} {l : List UInt8} (h : t.data.toList = l.takeWhile isTok) : ∀ (j : Nat) (b : UInt8), t.data.toList[j]? = some b → b.toNat < 128 := by
  intro j b hb
  have hm : b ∈ l.takeWhile isTok := by rw [← h]; exact List.mem_of_getElem? hb
  have ht := mem_takeWhile hm
  have key : ∀ i : Fin 256, isTok (UInt8.ofNat i.val) = true → (UInt8.ofNat i.val).toNat < 128 := by decide +kernel
  have := key ⟨b.toNat, UInt8.toNat_lt b⟩
  simp only [UInt8.ofNat_toNat] at this
  exact this ht
theorem tok_len {s t : ByteArray} {i : Nat} (h : t.data.toList = (sfx s i).takeWhile isTok) : t.size ≤ s.size := by
  have h1 := takeWhile_add isTok (sfx s i)
  have h2 : t.size = t.data.toList.length := by simp
  rw [h2, h]
  rw [sfx_len] at h1
  omega
theorem end_st {w0 w : World} {bl M i i1 j : Nat} {s : ByteArray} {v : Value} {done : List Ch} (h : St w0 w0.heap.size bl M s w j v done) (hp : prs s.data.toList = done ++ prs (sfx s i)) (hS : sfx s i1 = (sfx s i).dropWhile isSep) (hT : (sfx s i1).takeWhile isTok = []) :
    ∃ xs M, w.ownsRow w0.heap.size 35 2 v (prs s.data.toList).length xs ∧ Chs w M (prs s.data.toList) xs ∧ Below w0.heap.size w0 w := by
  have : prs (sfx s i) = [] := by rw [prs_eq, if_pos (by rw [← hS]; exact hT)]
  rw [hp, this, List.append_nil]
  obtain ⟨xs, h1, h2⟩ := h.row
  exact ⟨xs, M, h1, h2, h.bel⟩
theorem few_st {s : ByteArray} {n j1 j2 : Nat} (hf : n ≤ j1) (h1 : j1 ≤ s.size) (h2 : j2 ≤ s.size) (hS : sfx s j2 = (sfx s j1).dropWhile isTok) (hT : (sfx s j1).takeWhile isTok ≠ []) : n + 1 ≤ j2 := by
  have h3 := takeWhile_add isTok (sfx s j1)
  have h4 := List.length_pos_iff.2 hT
  rw [← hS, sfx_len, sfx_len] at h3
  omega
section
variable {s : ByteArray} {L : List UInt8} {ps : List (List UInt8 × List UInt8)} {j k1 k2 k3 k5 : Nat} {nm : List UInt8}
theorem prm_a (h : prm L = (ps ++ (prm (sfx s j)).1, (prm (sfx s j)).2)) (P1 : sfx s k1 = (sfx s j).dropWhile isWs) (PT : nm = (sfx s k1).takeWhile isTok) (P2 : sfx s k2 = (sfx s k1).dropWhile isTok) (P3 : sfx s k3 = (sfx s k2).dropWhile isWs) (hc : nm = [] ∨ (sfx s k3).head? ≠ some 61) : prm L = (ps, sfx s k1) := by
  rw [h, prm_eq (sfx s j), ← P1, ← P2, ← P3, ← PT, if_pos hc, List.append_nil]
theorem prm_b (h : prm L = (ps ++ (prm (sfx s j)).1, (prm (sfx s j)).2)) (P1 : sfx s k1 = (sfx s j).dropWhile isWs) (PT : nm = (sfx s k1).takeWhile isTok) (P2 : sfx s k2 = (sfx s k1).dropWhile isTok) (P3 : sfx s k3 = (sfx s k2).dropWhile isWs) (hn : nm ≠ []) (hq : (sfx s k3).head? = some 61) (P4 : sfx s (k3 + 1) = (sfx s k3).tail) (P5 : sfx s k5 = (sfx s (k3 + 1)).dropWhile isWs) (hv : valueL (sfx s k5) = none) : prm L = (ps, sfx s s.size) := by
  rw [h, prm_eq (sfx s j), ← P1, ← P2, ← P3, ← PT, if_neg (by simp [hn, hq]), ← P4, ← P5, hv, sfx_end s s.size (Nat.le_refl _)]
  simp
theorem prm_v (h : prm L = (ps ++ (prm (sfx s j)).1, (prm (sfx s j)).2)) (P1 : sfx s k1 = (sfx s j).dropWhile isWs) (PT : nm = (sfx s k1).takeWhile isTok) (P2 : sfx s k2 = (sfx s k1).dropWhile isTok) (P3 : sfx s k3 = (sfx s k2).dropWhile isWs) (hn : nm ≠ []) (hq : (sfx s k3).head? = some 61) (P4 : sfx s (k3 + 1) = (sfx s k3).tail) (P5 : sfx s k5 = (sfx s (k3 + 1)).dropWhile isWs) {x : List UInt8 × List UInt8} (hv : valueL (sfx s k5) = some x) {k6 k7 : Nat} (P6 : sfx s k6 = x.2) (P7 : sfx s k7 = (sfx s k6).dropWhile isWs) :
    ((sfx s k7).head? ≠ some 44 → prm L = (ps ++ [(nm, x.1)], sfx s k7)) ∧ ((sfx s k7).head? = some 44 → prm L = ((ps ++ [(nm, x.1)]) ++ (prm (sfx s k7).tail).1, (prm (sfx s k7).tail).2)) := by
  rw [h, prm_eq (sfx s j), ← P1, ← P2, ← P3, ← PT, if_neg (by simp [hn, hq]), ← P4, ← P5, hv]
  simp only
  rw [← P6, ← P7]
  constructor
  · intro hc
    rw [if_neg hc]
  · intro hc
    rw [if_pos hc]; simp
theorem val_le {i : Nat} {x : List UInt8 × List UInt8} (hi : i ≤ s.size) (hj : j ≤ s.size) (hv : valueL (sfx s i) = some x) (hS : sfx s j = x.2) : i ≤ j := by
  have h := valueL_len _ _ hv
  rw [← hS, sfx_len, sfx_len] at h
  omega
theorem name_len {t : ByteArray} (h : t.size ≤ s.size) (hs : s.size ≤ 1099511627776) : (⟨(toLowerA t.data.toList).toArray⟩ : ByteArray).size ≤ maxLen := by
  have : (⟨(toLowerA t.data.toList).toArray⟩ : ByteArray).size = t.size := by
    show (toLowerA t.data.toList).toArray.size = t.size
    simp [toLowerA]
  rw [this]; unfold maxLen; omega
theorem qv_size : ∀ (l acc : List UInt8) (x : List UInt8 × List UInt8), qv acc l = some x → x.1.length ≤ acc.length + l.length
  | [], acc, x, h => by cases h
  | [c], acc, x, h => by
    unfold qv at h
    split at h
    · cases h; simp
    · split at h
      · cases h
      · unfold qv at h; cases h
  | c :: d :: r, acc, x, h => by
    unfold qv at h
    split at h
    · cases h; simp
    · split at h
      · have := qv_size r _ x h; simp at this ⊢; omega
      · have := qv_size (d :: r) _ x h; simp at this ⊢; omega
theorem val_len {i : Nat} {x : List UInt8 × List UInt8} {t : ByteArray} (hv : valueL (sfx s i) = some x) (ht : t.data.toList = x.1) (hs : s.size ≤ 1099511627776) : t.size ≤ maxLen := by
  have h2 : t.size = t.data.toList.length := by simp
  have h3 := sfx_len s i
  rw [h2, ht]
  generalize sfx s i = l at *
  unfold valueL at hv
  unfold maxLen
  split at hv
  · cases hv; simp
  · split at hv
    · have := qv_size _ _ _ hv
      simp at this h3; omega
    · cases hv
      rename_i c r _
      have := takeWhile_add noSep (c :: r)
      simp only
      omega
end
theorem start_st (w : World) (s : ByteArray) : ∃ (i : Nat) (done : List Ch) (M : Nat), St w w.heap.size w.heap.size M s (w.alloc (.cells #[.string s, .int .i64 0] 52)) i (.slice none 0 0) done ∧ M ≤ (w.alloc (.cells #[.string s, .int .i64 0] 52)).heap.size ∧ prs s.data.toList = done ++ prs (sfx s i) :=
  ⟨0, [], 0, ⟨heap_alloc_new w _, Nat.zero_le _, ⟨[], World.ownsRow_nil _ _ _ _, rfl⟩, (Below.refl _ _).alloc (Nat.le_refl _) _, Nat.le_refl _, Nat.le_refl _⟩, Nat.zero_le _, by simp [sfx]⟩

theorem next_st {s t : ByteArray} {i j1 j2 j : Nat} {done : List Ch} {ps : List (List UInt8 × List UInt8)} (hp : prs s.data.toList = done ++ prs (sfx s i)) (hS1 : sfx s j1 = (sfx s i).dropWhile isSep) (hT : t.data.toList = (sfx s j1).takeWhile isTok) (hne : t.data.toList ≠ []) (hS2 : sfx s j2 = (sfx s j1).dropWhile isTok) (hm : prm (sfx s j2) = (ps, sfx s j)) (hj : j ≤ s.size) :
    prs s.data.toList = (done ++ [(t.data.toList, ps)]) ++ prs (sfx s j) ∧ i < j := by
  have h0 : (sfx s j1).takeWhile isTok ≠ [] := by rw [← hT]; exact hne
  constructor
  · rw [hp, prs_eq (sfx s i), if_neg (by rw [← hS1]; exact h0), ← hS1, ← hS2, hm, ← hT]
    simp
  · have h := prs_less (sfx s i) (by rw [← hS1]; exact h0)
    rw [← hS1, ← hS2, hm] at h
    simp only at h
    rw [sfx_len, sfx_len] at h
    omega
theorem row_bounds {n : Nat} (h : n ≤ 1099511627776) : n + 1 ≤ maxLen ∧ (n + 1) * 24 ≤ 140737488355328 := by unfold maxLen; omega
theorem two_cells (tl : ByteArray) (m : Nat) : ∀ u : Value, u ∈ [Value.string tl, Value.map (some m)] → u.oneCell' = true := by
  intro u hu
  simp only [List.mem_cons, List.not_mem_nil, or_false] at hu
  rcases hu with rfl | rfl <;> rfl
theorem size_up {B : Nat} {w : World} (h : B ≤ w.heap.size) (o : Obj) : B ≤ (w.alloc o).heap.size := by simp; omega
theorem Tryd.info35 : (Tryd.prog.info? 35).map (fun i => (i.zero, i.size, i.bytes)) = some (some (.agg #[.string ⟨#[]⟩, .map none]), 2, 24) := by kernel_rfl

set_option maxHeartbeats 1000000 in
set_option maxRecDepth 100000 in
theorem parse_one (a o cap : Nat) (s : ByteArray) (w : World) (hs : s.size ≤ 1099511627776) (hc : w.cell? ⟨a, o, none⟩ = some (.string s)) :
    Calls Tryd.prog 29 #[.slice (some ⟨a, o, none⟩) 1 cap] w fun e w' => ∃ v xs M, e = .returned v ∧ w'.ownsRow w.heap.size 35 2 v (prs s.data.toList).length xs ∧ Chs w' M (prs s.data.toList) xs ∧ Below w.heap.size w w' := by
  obtain ⟨i0, hi, hz0, hz1, hz2⟩ := info_parts Tryd.info35
  go_enter Tryd.func29, Tryd.ntmps29
  go_wp2
  go_loopw [3, 15] (fun u k wr => (k = .int .i64 0 ∧ u = .slice none 0 0 ∧ wr = w) ∨ (k = .int .i64 1 ∧ Hid (∃ xs M, wr.ownsRow w.heap.size 35 2 u (prs s.data.toList).length xs ∧ Chs wr M (prs s.data.toList) xs ∧ Below w.heap.size w wr))) (fun _ k _ => 1 - (RowKit.intOf k).toNat)
  case atStart => exact .inl ⟨rfl, rfl, rfl⟩
  case round =>
    rcases hrel with ⟨rfl, rfl, hw⟩ | ⟨rfl, HF⟩
    · have hw2 := hw.symm; subst hw2
      have H0 : Hid (∃ (i : Nat) (done : List Ch) (M : Nat), St w w.heap.size w.heap.size M s (w.alloc (.cells #[.string s, .int .i64 0] 52)) i (.slice none 0 0) done ∧ M ≤ (w.alloc (.cells #[.string s, .int .i64 0] 52)).heap.size ∧ prs s.data.toList = done ++ prs (sfx s i)) := start_st w s
      go_wp2
      clear hc
      go_loopw [3] (fun u wr => Hid (∃ (i : Nat) (done : List Ch) (M : Nat), St w w.heap.size w.heap.size M s wr i u done ∧ M ≤ wr.heap.size ∧ prs s.data.toList = done ++ prs (sfx s i))) (fun _ wr => s.size - lxI wr w.heap.size)
      case atStart => exact H0
      case round =>
        clear H0
        obtain ⟨i, done, M, hst, hM, hpr⟩ := unhide hrel
        have HST := hide hst
        have HPR := hide hpr
        clear hrel hst hpr
        go_wp2_with fail
        refine (skip_sep w.heap.size i s wr (unhide HST).lx (unhide HST).le hs).mono ?_
        rintro e w1 ⟨rfl, ⟨j1, hL1, hj1, hS1⟩, hg1⟩
        have h01 := pos_le (unhide HST).le hj1 hS1
        have HST1 := hide ((unhide HST).lexed (Nat.le_of_lt (unhide HST).size) hL1 hj1 h01 hg1)
        have HS1 := hide hS1
        have hM1 : M ≤ w1.heap.size := Nat.le_trans hM hg1.size
        clear hL1 hS1 hg1
        go_wp2_with fail
        refine (token_any w.heap.size j1 s w1 (unhide HST1).lx hj1 hs).mono ?_
        rintro e w2 ⟨⟨t, rfl, ht⟩, ⟨j2, hL2, hj2, hS2⟩, hg2⟩
        have h12 := pos_le hj1 hj2 hS2
        have HST2 := hide ((unhide HST1).lexed (Nat.le_of_lt (unhide HST1).size) hL2 hj2 h12 hg2)
        have HS2 := hide hS2
        have hM2 : M ≤ w2.heap.size := Nat.le_trans hM1 hg2.size
        have HT := hide ht
        clear hL2 hS2 hg2 ht
        by_cases hte : t.data.toList = []
        · have htz : t = ⟨#[]⟩ := WideShapes.bytes_inj hte
          subst htz
          have HE := hide (end_st (unhide HST2) (unhide HPR) (unhide HS1) (unhide HT).symm)
          clear hte
          go_wp2
          go_roundw
          case rel => exact .inr ⟨rfl, HE⟩
          case measure => simp [RowKit.intOf]
        · have htb : t.toList.isEmpty = false := by rw [ByteArray.toList_eq]; simpa using hte
          have HTE := hide hte
          clear hte
          have hasc := hide (tok_ascii (unhide HT))
          have htl := hide (tok_len (unhide HT))
          go_wp2_with fail
          refine (Tryd.strings_ToLower_ascii t w2 (Nat.le_trans (unhide htl) (by omega)) (unhide hasc)).mono ?_
          rintro e w3 ⟨rfl, hb3⟩
          have HST3 := hide ((unhide HST2).grew (Nat.le_of_lt (unhide HST2).size) (below_none hb3))
          have hM3 : M ≤ w3.heap.size := Nat.le_trans hM2 hb3.size
          clear hb3
          generalize hTL : (⟨(toLowerA t.data.toList).toArray⟩ : ByteArray) = tl
          have HTL := hide hTL
          clear hTL
          have hmm := @run_makeMap Tryd.prog
          go_upto_block 4 with fail
          go_cut [9, 10, 11, 12] from 29 to 60 (fun _ _ _ _ wx => Hid (∃ (j : Nat) (ps : List (List UInt8 × List UInt8)), St3 w w.heap.size w.heap.size M s u3 done (w3.heap.size + 1) w3.heap.size tl wx j ps ∧ prm (sfx s j2) = (ps, sfx s j)))
          case first =>
            have HB0 := hide ((unhide HST3).begin_ (tl := tl) hM3 (Nat.le_of_lt (unhide HST3).size) (few_st (unhide HST1).few hj1 hj2 (unhide HS2) (by rw [← unhide HT]; exact unhide HTE)))
            have H0 : Hid (∃ (j : Nat) (ps : List (List UInt8 × List UInt8)), St3 w w.heap.size w.heap.size M s u3 done (w3.heap.size + 1) w3.heap.size tl ((w3.alloc (.map #[] 0)).alloc (.cells #[.string tl, .map (some w3.heap.size)] 35)) j ps ∧ prm (sfx s j2) = (ps ++ (prm (sfx s j)).1, (prm (sfx s j)).2)) := ⟨j2, [], unhide HB0, rfl⟩
            clear HB0 HST3 HST2 HST1 HST
            go_wp2_with fail
            go_loopw [] (fun wy => Hid (∃ (j : Nat) (ps : List (List UInt8 × List UInt8)), St3 w w.heap.size w.heap.size M s u3 done (w3.heap.size + 1) w3.heap.size tl wy j ps ∧ prm (sfx s j2) = (ps ++ (prm (sfx s j)).1, (prm (sfx s j)).2))) (fun wy => s.size - lxI wy w.heap.size)
            case atStart => exact H0
            case round =>
              clear H0
              obtain ⟨j, ps, hs3, hpm⟩ := unhide hrel
              have A0 := hide hs3
              have HPM := hide hpm
              clear hrel hs3 hpm
              go_wp2_with fail
              refine (skip_ws w.heap.size j s wr (unhide A0).st.lx (unhide A0).st.le hs).mono ?_
              rintro e x1 ⟨rfl, ⟨k1, hL1, hk1, hS1⟩, hg1⟩
              have k01 := pos_le (unhide A0).st.le hk1 hS1
              have A1 := hide ((unhide A0).lexed hL1 hk1 k01 hg1)
              have P1 := hide hS1
              have hc1 := hL1.c1
              clear hL1 hS1 hg1
              go_wp2_with fail
              clear hc1
              refine (token_any w.heap.size k1 s x1 (unhide A1).st.lx hk1 hs).mono ?_
              rintro e x2 ⟨⟨t', rfl, ht'⟩, ⟨k2, hL2, hk2, hS2⟩, hg2⟩
              have k12 := pos_le hk1 hk2 hS2
              have A2 := hide ((unhide A1).lexed hL2 hk2 k12 hg2)
              have P2 := hide hS2
              have PT := hide ht'
              clear hL2 hS2 hg2 ht'
              go_wp2_with fail
              refine (skip_ws w.heap.size k2 s x2 (unhide A2).st.lx hk2 hs).mono ?_
              rintro e x3 ⟨rfl, ⟨k3, hL3, hk3, hS3⟩, hg3⟩
              have k23 := pos_le hk2 hk3 hS3
              have A3 := hide ((unhide A2).lexed hL3 hk3 k23 hg3)
              have P3 := hide hS3
              have hf1 := hL3.f1
              have hc31 := hL3.c1
              clear hL3 hS3 hg3
              by_cases hne : t'.data.toList = []
              · have htz : t' = ⟨#[]⟩ := WideShapes.bytes_inj hne
                subst htz
                have HX := hide (prm_a (unhide HPM) (unhide P1) (unhide PT) (unhide P2) (unhide P3) (.inl hne))
                clear hne
                go_wp2_with fail
                go_meet
                case rel => exact hide ⟨k1, ps, (unhide A3).back ((unhide A3).st.lx.set k1) hk1 (by have := (unhide A1).few; omega) (grown_set _ _ _ _), unhide HX⟩
              · have hnb : t'.toList.isEmpty = false := by rw [ByteArray.toList_eq]; simpa using hne
                have HNE := hide hne
                clear hne
                by_cases hq : (sfx s k3).head? = some 61
                · have HQ := hide hq
                  clear hq
                  go_wp2_with fail
                  refine (next_yes w.heap.size k3 s 61 x3 (unhide A3).st.lx hs (unhide HQ)).mono ?_
                  rintro e x4 ⟨rfl, ⟨hL4, hk4, hS4⟩, hg4⟩
                  have A4 := hide ((unhide A3).lexed hL4 hk4 (Nat.le_succ _) hg4)
                  have P4 := hide hS4
                  clear hL4 hS4 hg4 hf1 hc31
                  go_wp2_with fail
                  refine (skip_ws w.heap.size (k3 + 1) s x4 (unhide A4).st.lx hk4 hs).mono ?_
                  rintro e x5 ⟨rfl, ⟨k5, hL5, hk5, hS5⟩, hg5⟩
                  have k45 := pos_le hk4 hk5 hS5
                  have A5 := hide ((unhide A4).lexed hL5 hk5 k45 hg5)
                  have P5 := hide hS5
                  clear hL5 hS5 hg5
                  cases hv : valueL (sfx s k5) with
                  | none =>
                    have HX := hide (prm_b (unhide HPM) (unhide P1) (unhide PT) (unhide P2) (unhide P3) (unhide HNE) (unhide HQ) (unhide P4) (unhide P5) hv)
                    have HV := hide hv
                    clear hv
                    go_wp2_with fail
                    refine (value_any w.heap.size k5 s x5 (unhide A5).st.lx hk5 hs).mono ?_
                    rintro e x6 ⟨hV, hg6⟩
                    rw [unhide HV] at hV
                    obtain ⟨rfl, k6, hL6, hk6⟩ := hV
                    have HL6 := hide hL6
                    have HG6 := hide hg6
                    have hf6 := hL6.f1
                    have hc6 := hL6.c0
                    have hc61 := hL6.c1
                    clear hL6 hg6
                    go_wp2_with fail
                    go_meet
                    case rel => exact hide ⟨s.size, ps, (unhide A5).back ((unhide HL6).set s.size) (Nat.le_refl _) (by have := (unhide A1).few; omega) ((unhide HG6).trans (grown_set _ _ _ _)), unhide HX⟩
                  | some x =>
                    have HV := hide hv
                    clear hv
                    go_wp2_with fail
                    refine (value_any w.heap.size k5 s x5 (unhide A5).st.lx hk5 hs).mono ?_
                    rintro e x6 ⟨hV, hg6⟩
                    rw [unhide HV] at hV
                    obtain ⟨tv, k6, rfl, htv, hL6, hk6, hS6⟩ := hV
                    have k56 := val_le hk5 hk6 (unhide HV) hS6
                    have A6 := hide ((unhide A5).lexed hL6 hk6 k56 hg6)
                    have P6 := hide hS6
                    have PV := hide htv
                    clear hL6 hS6 hg6 htv
                    have hasc' := hide (tok_ascii (unhide PT))
                    have htl' := hide (tok_len (unhide PT))
                    have A6d := hide ((unhide A6).grew (w' := x6.drew) ⟨rfl, rfl, rfl, Nat.le_refl _, fun _ _ _ => rfl⟩)
                    have hnm := hide (name_len (unhide htl') hs)
                    have htvl := hide (val_len (unhide HV) (unhide PV) hs)
                    have hpsl := hide (show ps.length < maxLen by have := (unhide A6).few; unfold maxLen; omega)
                    have hfw := hide (show done.length + 1 + (ps.length + 1) ≤ k6 by have := (unhide A3).few; omega)
                    go_wp2_with fail
                    go_region_held3 (fun w' => w'.cell? ⟨w3.heap.size + 1, 1, none⟩ = some (.map (some w3.heap.size))) (first | exact (unhide A6d).c1 | exact (unhide A7).c1 | exact (unhide A8).c1) ((go_at_call 33; refine (Tryd.strings_ToLower_ascii t' _ (Nat.le_trans (unhide htl') (by omega)) (unhide hasc')).mono ?_; rintro e x7 ⟨rfl, hb7⟩; have A7 := hide ((unhide A6d).grew (below_none hb7)); obtain ⟨x8, hrun, hown8, hg8⟩ := World.ownsMap.update (unhide A7).mp (Maps.string_keyed Tryd.underlying9) Tryd.underlying33 (unhide hpsl) (Go.WideMaps.keyOf_string_mk Tryd.underlying9 (unhide hnm)) (plainElem_string Tryd.underlying9 (s := tv) (unhide htvl)); have A8 := hide ((unhide A7).put (p := (t'.data.toList, tv.data.toList)) (unhide hfw) hown8 hg8)))
                    clear hrun hown8 hg8 hb7
                    go_wp2_with fail
                    refine (skip_ws w.heap.size k6 s x8 (unhide A8).st.lx hk6 hs).mono ?_
                    rintro e x9 ⟨rfl, ⟨k7, hL9, hk7, hS9⟩, hg9⟩
                    have k67 := pos_le hk6 hk7 hS9
                    have A9 := hide ((unhide A8).lexed hL9 hk7 k67 hg9)
                    have HX := hide (prm_v (unhide HPM) (unhide P1) (unhide PT) (unhide P2) (unhide P3) (unhide HNE) (unhide HQ) (unhide P4) (unhide P5) (unhide HV) (unhide P6) hS9)
                    clear hL9 hS9 hg9
                    by_cases hq2 : (sfx s k7).head? = some 44
                    · have HY := hide ((unhide HX).2 hq2)
                      have HQ2 := hide hq2
                      clear hq2 HX
                      go_wp2_with fail
                      refine (next_yes w.heap.size k7 s 44 x9 (unhide A9).st.lx hs (unhide HQ2)).mono ?_
                      rintro e xA ⟨rfl, ⟨hLA, hkA, hSA⟩, hgA⟩
                      have AA := hide ((unhide A9).lexed hLA hkA (Nat.le_succ _) hgA)
                      have PA := hide hSA
                      clear hLA hSA hgA
                      go_wp2
                      go_roundw
                      case rel =>
                        refine hide ⟨k7 + 1, _, unhide AA, ?_⟩
                        rw [unhide HY, unhide PA, unhide PV]
                      case measure =>
                        rw [lxI_of (unhide A0).st.lx, lxI_of (unhide AA).st.lx]
                        omega
                    · have HY := hide ((unhide HX).1 hq2)
                      have HQ2 := hide hq2
                      clear hq2 HX
                      go_wp2_with fail
                      refine (next_no w.heap.size k7 s 44 x9 (unhide A9).st.lx hs (unhide HQ2)).mono ?_
                      rintro e xA ⟨rfl, hLA, hgA⟩
                      have AA := hide ((unhide A9).lexed hLA hk7 (Nat.le_refl _) hgA)
                      clear hLA hgA
                      go_wp2_with fail
                      go_meet
                      case rel => exact hide ⟨k7, _, unhide AA, by rw [unhide HY, unhide PV]⟩
                · have HX := hide (prm_a (unhide HPM) (unhide P1) (unhide PT) (unhide P2) (unhide P3) (.inr hq))
                  have HQ := hide hq
                  clear hq
                  go_wp2_with fail
                  refine (next_no w.heap.size k3 s 61 x3 (unhide A3).st.lx hs (unhide HQ)).mono ?_
                  rintro e x4 ⟨rfl, hL4, hg4⟩
                  have A4 := hide ((unhide A3).lexed hL4 hk3 (Nat.le_refl _) hg4)
                  have hf4 := hL4.f1
                  have hc41 := hL4.c1
                  clear hL4 hg4 hf1 hc31
                  go_wp2_with fail
                  go_meet
                  case rel => exact hide ⟨k1, ps, (unhide A4).back ((unhide A4).st.lx.set k1) hk1 (by have := (unhide A1).few; omega) (grown_set _ _ _ _), unhide HX⟩
          case rest =>
            obtain ⟨j, ps, h3, hpm⟩ := unhide hcut
            have A := hide h3
            obtain ⟨xs, hr, hch⟩ := h3.st.row
            have HCH := hide hch
            have HR := hide hr
            have HN := hide (next_st (unhide HPR) (unhide HS1) (unhide HT) (unhide HTE) (unhide HS2) hpm h3.st.le)
            have hcc0 := h3.c0
            have hcc1 := h3.c1
            have HLN := hide (row_bounds (n := done.length) (by have := h3.few; have := h3.st.le; omega))
            have HSZ := hide h3.sz
            clear hcut h3 hpm hr hch
            go_wp2_with (at_builtin; refine wpList_append_own _ rfl _ _ 30 rfl w.heap.size 35 i0 _ 2 24 Tryd.underlying30 hi hz0 hz1 hz2 rfl (by decide) _ _ _ rfl ((unhide HR).alloc _) ⟨wc.heap.size, 0, none⟩ 1 1 [.string tl, .map (some w3.heap.size)] rfl rfl (World.news_of_block (heap_alloc_new wc _)) (two_cells _ _) (unhide HLN).1 (unhide HLN).2 (size_up (unhide HSZ) _) ?_)
            intro v' wd hown' hgrow _
            have HD := hide ((unhide A).done (sc := t.data.toList) (by rw [← unhide HTL]) (unhide HCH) (unhide HR) hown' hgrow)
            clear hown' hgrow
            go_wp2
            go_roundw
            case rel => exact hide ⟨j, _, _, unhide HD, Nat.le_refl _, (unhide HN).1⟩
            case measure =>
              rw [lxI_of (unhide HST).lx, lxI_of (unhide HD).lx]
              have := (unhide HN).2
              have := (unhide HD).le
              omega
    · go_wp2
      go_ret
      obtain ⟨xs, M, h1, h2, h3⟩ := unhide HF
      exact ⟨_, xs, M, rfl, h1, h2, h3⟩
end Go.Proofs.Qxb6000614aDoor
