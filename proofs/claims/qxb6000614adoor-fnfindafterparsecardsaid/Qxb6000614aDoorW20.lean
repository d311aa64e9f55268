/-
  WALKS of seat b6000614aD: the law FnFindAfterParse.
-/
import Derived.Test.Qxb6000614aDoorW19
set_option linter.unusedVariables false
namespace Go.Proofs.Qxb6000614aDoor
open Go.RowKit Go.Lib

theorem sB_take_le (ss : List ByteArray) (i : Nat) : sB (ss.take i) ≤ sB ss := by
  have h := sB_append (ss.take i) (ss.drop i)
  rw [List.take_append_drop] at h
  omega
set_option maxHeartbeats 4000000 in
set_option maxRecDepth 100000 in
theorem law6_any (p0 : Option Addr) (c0 : Nat) (ss : List ByteArray) (sq : ByteArray) (w : World) (hsq : sq.size ≤ maxLen) (hss : Inp w p0 c0 ss) :
    Calls Tryd.prog 6 #[.slice p0 ss.length c0, .string sq] w fun e w' => e = .returned (.bool true) ∧ Below w.heap.size w w' := by
  have Hss := hide hss
  have C23 := hide (bytes23 sq p0 c0 ss w hss.len hss.view hsq)
  have S1 := hide (strsBytes_any p0 c0 ss w hss.len hss.view)
  clear hss
  unfold maxLen at hsq
  have gsq : (0 : Int) ≤ (sq.size : Int) := by omega
  go_enter Tryd.func6, Tryd.ntmps6
  go_wp2_with fail
  refine (unhide C23).mono ?_
  rintro e W ⟨⟨v0, rfl⟩, hw⟩
  have hw2 := hw.symm; subst hw2
  clear hw C23
  cases v0 with
  | false =>
    go_wp2
    go_ret
    exact ⟨rfl, Below.refl _ _⟩
  | true =>
  by_cases kq : (1048576 : Int) < (sq.size : Int)
  · go_wp2
    go_ret
    exact ⟨rfl, Below.refl _ _⟩
  have kq' : (sq.size : Int) ≤ 1048576 := by omega
  clear kq
  go_wp2_with fail
  refine (unhide S1).mono ?_
  rintro e W ⟨⟨r1, rfl, q0, q1, t1⟩, hw⟩
  have hw2 := hw.symm; subst hw2
  have T1 := hide t1
  clear hw t1 S1
  by_cases ks : (1048576 : Int) < r1 + (sq.size : Int)
  · go_wp2
    go_ret
    exact ⟨rfl, Below.refl _ _⟩
  have ks' : r1 + (sq.size : Int) ≤ 1048576 := by omega
  clear ks
  have B1 := hide (show sB ss ≤ 1048576 by have := unhide T1 (by omega); omega)
  have hN : ss.length ≤ 65536 := by have := sB_len ss; have := unhide B1; omega
  have hQ : sq.size ≤ 1048576 := by omega
  have HZ : Hid (∀ x ∈ ss, x.size ≤ 1048576) := hide fun t ht => by have := sB_mem ht; have := unhide B1; omega
  have K1 := hide (allTokens_any p0 c0 ss w (by omega) (fun t ht => by have := unhide HZ t ht; omega) (unhide Hss).view)
  cases h1 : (ss.all fun t => isTokenB t.data.toList) with
  | false =>
    rw [h1] at K1
    clear h1
    go_wp2_with fail
    refine (unhide K1).mono ?_
    rintro e W ⟨rfl, hw⟩
    have hw2 := hw.symm; subst hw2
    go_wp2
    go_ret
    exact ⟨rfl, Below.refl _ _⟩
  | true =>
  rw [h1] at K1
  have HPR := hide (prs_csf ss (allTok ss h1))
  clear h1
  go_wp2_with fail
  refine (unhide K1).mono ?_
  rintro e W ⟨rfl, hw⟩
  have hw2 := hw.symm; subst hw2
  clear hw K1 T1 ks' q0 q1 kq' gsq hsq
  go_wp2_with fail
  refine (clone_any p0 c0 ss w (by omega) (unhide Hss).nil (unhide Hss).view).mono ?_
  rintro e w4 ⟨⟨p1, c1, rfl, n1, v1⟩, b1⟩
  have V1 := hide v1
  have D4 := hide b1
  clear n1 v1 b1 Hss
  obtain ⟨i0, hi, hz0, hz1, hz2⟩ := info_parts Tryd.info5
  go_wp2_with (at_make; refine wpList_make_own _ rfl _ _ 28 rfl w4.heap.size 5 i0 (.int .u8 0) 1 Tryd.underlying28 hi hz0 hz1 _ _ _ 1024 rfl rfl rfl ?b2 ?b3 (Nat.le_refl _) ?_)
  case b2 => rw [hz2]; omega
  case b3 => unfold maxLen; omega
  intro w5 hown0 hgrow0
  have E5 := hide (show Below w4.heap.size w4 w5 from (Below.refl _ _).grown hgrow0 (Nat.le_refl _) (fun k h => by cases h))
  have O5 : Hid (Own w4.heap.size w5 (.slice (some ⟨w4.heap.size, 0, none⟩) 0 1024) []) := hide hown0
  clear hown0 hgrow0
  go_wp2
  go_loopw [5, 6] (fun u k wr => ∃ i : Nat, i ≤ ss.length ∧ k = .int .i64 i ∧ Hid (Own w4.heap.size wr u (hdr (csf ss i))) ∧ Hid (Below w4.heap.size w4 wr) ∧ Hid ((hdr (csf ss i)).length ≤ sB (ss.take i) + 64 * i)) (fun _ k _ => ss.length - (RowKit.intOf k).toNat)
  case atStart => exact ⟨0, Nat.zero_le _, rfl, O5, E5, hide (Nat.zero_le _)⟩
  case round =>
    clear O5 E5
    obtain ⟨i, hin, rfl, HO, HB, HL⟩ := hrel
    have hwr : w4.heap.size ≤ wr.heap.size := (unhide HB).size
    have HLN := hide (show (hdr (csf ss i)).length ≤ 6291456 by have := unhide HL; have := unhide B1; have := sB_take_le ss i; omega)
    by_cases hlt : i < ss.length
    · obtain ⟨bs, os, rfl, hcs⟩ := (unhide V1) (by omega)
      have hbs := (unhide V1).lt bs os rfl (by omega)
      have HCS : Hid (∀ W, Below w4.heap.size w4 W → W.cell? ⟨bs, os + i, none⟩ = some (.string ss[i])) := hide fun W h => (h.cell (p := ⟨bs, os + i, none⟩) hbs).trans (hcs i hlt)
      clear hcs
      have HSI := hide (unhide HZ _ (List.getElem_mem hlt))
      have HE := hide (getD_at ss ⟨#[]⟩ i hlt)
      have HST := hide (sB_take ss i hlt)
      have HIL := hide (itoaL_len i)
      generalize hNI : ss[i] = si at *
      clear hNI
      by_cases hi0 : i = 0
      · have hib : ¬ (0 : Int) < (i : Int) := by omega
        have HH := hide (show hdr (csf ss (i + 1)) = hdr (csf ss i) ++ (si.data.toList ++ ([32, 112, 61] ++ itoaL i)) by subst hi0; rw [hdr_one, hdr_zero, unhide HE]; rfl)
        clear hi0
        have hc1 := unhide HCS _ (unhide HB)
        go_wp2_with (at_builtin; refine app_str rfl _ _ rfl w4.heap.size _ (hdr (csf ss i)) rfl (unhide HO) si rfl (by have := unhide HLN; have := unhide HSI; omega) hwr ?_)
        clear hc1
        intro v2 w2 ho2 hb2
        have HO2 := hide ho2
        have HB2 := hide ((unhide HB).trans hb2)
        have hw2 : w4.heap.size ≤ w2.heap.size := (unhide HB2).size
        clear ho2 hb2
        go_wp2_with (at_builtin; refine app_cells rfl _ _ rfl w4.heap.size _ _ rfl ((unhide HO2).alloc _) ⟨w2.heap.size, 0, none⟩ [32, 112, 61] 3 rfl (lit_cells _ _ _ rfl) (by have := unhide HLN; have := unhide HSI; simp; omega) (size_up' hw2 _) ?_)
        intro v3 w3 ho3 hb3
        have HO3 := hide ho3
        have HB3 := hide (below_al (unhide HB2) hw2 hb3)
        have hw3 : w4.heap.size ≤ w3.heap.size := (unhide HB3).size
        clear ho3 hb3
        go_wp2_with fail
        refine (itoa_any i w3 (by omega)).mono ?_
        rintro e w6 ⟨rfl, hb6⟩
        have HO6 := hide (World.ownsRow.kept (unhide HO3) (below_none hb6) (by cases Value.ownBlock v3 <;> simp))
        have HB6 := hide ((unhide HB3).trans (hb6.mono hw3))
        have hw6 : w4.heap.size ≤ w6.heap.size := (unhide HB6).size
        clear hb6
        go_wp2_with (at_builtin; refine app_str rfl _ _ rfl w4.heap.size _ _ rfl (unhide HO6) ⟨(itoaL i).toArray⟩ rfl (by have := unhide HLN; have := unhide HSI; have := unhide HIL; have e : (⟨(itoaL i).toArray⟩ : ByteArray).size = (itoaL i).length := (by show (itoaL i).toArray.size = _; simp); rw [e]; simp; omega) hw6 ?_)
        intro v7 w7 ho7 hb7
        have HO7 := hide ho7
        have HB7 := hide ((unhide HB6).trans hb7)
        clear ho7 hb7
        go_wp2
        go_roundw
        case rel =>
          refine ⟨i + 1, hlt, by go_num, hide ?_, HB7, hide ?_⟩
          · rw [unhide HH]
            have := unhide HO7
            simpa using this
          · rw [unhide HH, unhide HST]
            have := unhide HL
            have := unhide HIL
            simp
            omega
        case measure => simp [RowKit.intOf]; omega
      · have hib : (0 : Int) < (i : Int) := by omega
        have HH := hide (show hdr (csf ss (i + 1)) = hdr (csf ss i) ++ ([44, 32] ++ (si.data.toList ++ ([32, 112, 61] ++ itoaL i))) by rw [hdr_more ss i hi0, unhide HE])
        clear hi0
        go_wp2_with (at_builtin; refine app_cells rfl _ _ rfl w4.heap.size _ (hdr (csf ss i)) rfl ((unhide HO).alloc _) ⟨wr.heap.size, 0, none⟩ [44, 32] 2 rfl (lit_cells _ _ _ rfl) (by have := unhide HLN; simp; omega) (size_up' hwr _) ?_)
        intro v1 w1 ho1 hb1
        have HO1 := hide ho1
        have HB1 := hide (below_al (unhide HB) hwr hb1)
        clear ho1 hb1
        have hw1 : w4.heap.size ≤ w1.heap.size := (unhide HB1).size
        have hc1 := unhide HCS _ (unhide HB1)
        go_wp2_with (at_builtin; refine app_str rfl _ _ rfl w4.heap.size _ _ rfl (unhide HO1) si rfl (by have := unhide HLN; have := unhide HSI; simp; omega) hw1 ?_)
        clear hc1
        intro v2 w2 ho2 hb2
        have HO2 := hide ho2
        have HB2 := hide ((unhide HB1).trans hb2)
        have hw2 : w4.heap.size ≤ w2.heap.size := (unhide HB2).size
        clear ho2 hb2
        go_wp2_with (at_builtin; refine app_cells rfl _ _ rfl w4.heap.size _ _ rfl ((unhide HO2).alloc _) ⟨w2.heap.size, 0, none⟩ [32, 112, 61] 3 rfl (lit_cells _ _ _ rfl) (by have := unhide HLN; have := unhide HSI; simp; omega) (size_up' hw2 _) ?_)
        intro v3 w3 ho3 hb3
        have HO3 := hide ho3
        have HB3 := hide (below_al (unhide HB2) hw2 hb3)
        have hw3 : w4.heap.size ≤ w3.heap.size := (unhide HB3).size
        clear ho3 hb3
        go_wp2_with fail
        refine (itoa_any i w3 (by omega)).mono ?_
        rintro e w6 ⟨rfl, hb6⟩
        have HO6 := hide (World.ownsRow.kept (unhide HO3) (below_none hb6) (by cases Value.ownBlock v3 <;> simp))
        have HB6 := hide ((unhide HB3).trans (hb6.mono hw3))
        have hw6 : w4.heap.size ≤ w6.heap.size := (unhide HB6).size
        clear hb6
        go_wp2_with (at_builtin; refine app_str rfl _ _ rfl w4.heap.size _ _ rfl (unhide HO6) ⟨(itoaL i).toArray⟩ rfl (by have := unhide HLN; have := unhide HSI; have := unhide HIL; have e : (⟨(itoaL i).toArray⟩ : ByteArray).size = (itoaL i).length := (by show (itoaL i).toArray.size = _; simp); rw [e]; simp; omega) hw6 ?_)
        intro v7 w7 ho7 hb7
        have HO7 := hide ho7
        have HB7 := hide ((unhide HB6).trans hb7)
        clear ho7 hb7
        go_wp2
        go_roundw
        case rel =>
          refine ⟨i + 1, hlt, by go_num, hide ?_, HB7, hide ?_⟩
          · rw [unhide HH]
            have := unhide HO7
            simpa using this
          · rw [unhide HH, unhide HST]
            have := unhide HL
            have := unhide HIL
            simp
            omega
        case measure => simp [RowKit.intOf]; omega
    · have e : i = ss.length := by omega
      subst e
      have hcv := (unhide HO).conv
      have HPR2 := hide (show prs (hdr (csf ss ss.length)) = pcs ss from unhide HPR)
      clear HPR
      generalize hdr (csf ss ss.length) = hh at *
      go_wp2_with fail
      clear hcv
      refine (parse13 wr.heap.size 0 1 ⟨hh.toArray⟩ _ (by have := unhide HLN; show hh.toArray.size ≤ _; simp; omega) (new_cell _ _ _)).mono ?_
      rintro e w9 ⟨v9, xs, M, rfl, hr9, hc9, b9⟩
      rw [show (⟨hh.toArray⟩ : ByteArray).data.toList = hh from rfl, unhide HPR2] at hr9 hc9
      obtain ⟨p9, g, cap, rfl, hp9, hrow, hmaps⟩ := chs_row hr9 hc9
      have E9 := hide (below_al (unhide HB) hwr (b9.mono (by simp; omega)))
      have HP9 := hide hp9
      have HROW := hide hrow
      have HMAPS := hide hmaps
      generalize mapOf xs = Mp at *
      clear hp9 hrow hmaps hr9 hc9 b9 HPR2 HO HL
      have L1 := hide (fun W => lower_any sq W (by omega))
      generalize hLQ : (⟨(toLowerA sq.data.toList).toArray⟩ : ByteArray) = lq at *
      clear hLQ
      have hnn : ((ss.length : Int) != (ss.length : Int)) = false := by simp
      go_wp2_with fail
      refine (unhide L1 w9).mono ?_
      rintro e wA ⟨rfl, bA⟩
      have FA := hide bA
      clear bA L1
      go_wp2
      go_loopw [9, 10] (fun f k wr => ∃ i : Nat, i ≤ ss.length ∧ f = .int .i64 (-1) ∧ k = .int .i64 i ∧ Hid (Below w9.heap.size w9 wr) ∧ Hid (∀ j, j < i → (lows ss).getD j ⟨#[]⟩ ≠ lq)) (fun _ k _ => ss.length - (RowKit.intOf k).toNat)
      case atStart => exact ⟨0, Nat.zero_le _, rfl, rfl, FA, hide (fun j hj => by omega)⟩
      case round =>
        clear FA
        obtain ⟨i, hin2, rfl, rfl, HB2, HF⟩ := hrel
        have HFW : Hid (∀ W, Below w9.heap.size w9 W → RowC W g ss.length (fun j => (lows ss).getD j ⟨#[]⟩) Mp) := hide fun W h => (unhide HROW).below h
        by_cases hlt : i < ss.length
        · obtain ⟨bs, os, rfl, hcs⟩ := (unhide V1) (by omega)
          have hbs := (unhide V1).lt bs os rfl (by omega)
          have hci := (((unhide E9).trans ((unhide HB2).mono (unhide E9).size)).cell (p := ⟨bs, os + i, none⟩) hbs).trans (hcs i hlt)
          clear hcs
          have HSI := hide (unhide HZ _ (List.getElem_mem hlt))
          have HLA := hide (lows_at ss i hlt)
          have LI := hide (lower_any ss[i] wr (by have := unhide HSI; omega))
          rw [← unhide HLA] at LI
          have hpp := unhide HP9 (by omega)
          subst hpp
          by_cases heq : (lows ss).getD i ⟨#[]⟩ = lq
          · have HEQ := hide heq
            rw [heq] at LI
            clear heq
            obtain ⟨q, hmq⟩ := unhide HMAPS i hlt
            have HMQ := hide hmq
            clear hmq
            go_wp2_with fail
            refine (unhide LI).mono ?_
            rintro e wB ⟨rfl, bB⟩
            have FB := hide ((unhide HB2).trans (bB.mono (unhide HB2).size))
            clear bB LI hci
            go_wp2_with fail
            refine (zzfind_any (.slice (some ⟨g, 0, none⟩) ss.length cap) lq lq (some (Mp i)) true wB (fun W hb => find_some g ss.length cap i _ Mp lq W (by omega) hlt (unhide HEQ) (unhide HF) (unhide HFW W ((unhide FB).trans (hb.mono (unhide FB).size))))).mono ?_
            rintro e wC ⟨rfl, bC⟩
            have FC := hide ((unhide FB).trans (bC.mono (unhide FB).size))
            clear bC FB
            go_upto_region 30 with fail
            have hZ := heap_alloc_new wC (.cells #[.string lq, .map (some (Mp i))] 35)
            have FD := hide ((unhide FC).alloc (unhide FC).size (.cells #[.string lq, .map (some (Mp i))] 35))
            clear FC
            generalize wC.alloc (.cells #[.string lq, .map (some (Mp i))] 35) = wD at *
            generalize wC.heap.size = Z at *
            have HZD := hide hZ
            obtain ⟨z0, z1, _, _⟩ := box_cells hZ
            clear hZ
            have hge : ¬ (i : Int) < 0 := by omega
            have PM1 := hide (pmap_one (itoaL i))
            go_wp2_with fail
            refine (param_any lq ⟨#[112]⟩ (Mp i) q [([112], itoaL i)] wD (by show 1 ≤ maxLen; unfold maxLen; omega) ((unhide HMQ).grew (unhide FD))).mono ?_
            rintro e wE ⟨⟨tv, rfl, hat⟩, bE⟩
            rw [show (⟨#[112]⟩ : ByteArray).data.toList = [112] from rfl, (unhide PM1).1]
            have htv : tv = ⟨(itoaL i).toArray⟩ := by
              have h := (unhide PM1).2.1
              rw [show (⟨#[112]⟩ : ByteArray).data.toList = [112] from rfl, h] at hat
              simp only [DataW.lit.injEq, Lit.string.injEq] at hat
              exact WideShapes.bytes_inj hat.symm
            subst htv
            clear hat z0 z1
            have HZE := hide ((bE.block _ (Array.getElem?_eq_some_iff.1 (unhide HZD)).1).trans (unhide HZD))
            obtain ⟨z0, z1, _, _⟩ := box_cells (unhide HZE)
            have FE := hide ((unhide FD).trans (bE.mono (unhide FD).size))
            clear bE
            generalize hIT : (⟨(itoaL i).toArray⟩ : ByteArray) = ti at *
            go_wp2_with fail
            refine (scheme_any lq (some (Mp i)) wE).mono ?_
            rintro e wG ⟨rfl, bG⟩
            have HZG := hide ((bG.block _ (Array.getElem?_eq_some_iff.1 (unhide HZE)).1).trans (unhide HZE))
            have FG := hide ((unhide FE).trans (bG.mono (unhide FE).size))
            clear bG z0 z1
            go_wp2_with fail
            refine (itoa_any i wG (by omega)).mono ?_
            rw [hIT]
            rintro e wH ⟨rfl, bH⟩
            have HZH := hide ((bH.block _ (Array.getElem?_eq_some_iff.1 (unhide HZG)).1).trans (unhide HZG))
            obtain ⟨z0, z1, _, _⟩ := box_cells (unhide HZH)
            have FH := hide ((unhide FG).trans (bH.mono (unhide FG).size))
            clear bH
            go_wp2_with fail
            refine (count_any lq (Mp i) q [([112], itoaL i)] wH ((unhide HMQ).grew (unhide FH))).mono ?_
            rw [(unhide PM1).2.2]
            rintro e wI ⟨rfl, bI⟩
            have FI := hide ((unhide FH).trans (bI.mono (unhide FH).size))
            clear bI
            go_wp2
            go_ret
            exact ⟨rfl, (unhide D4).trans (((unhide E9).trans ((unhide FI).mono (unhide E9).size)).mono (unhide D4).size)⟩
          · have hnb : (((lows ss).getD i ⟨#[]⟩).toList == lq.toList) = false := by
              rw [ByteArray.toList_eq, ByteArray.toList_eq]
              exact beq_eq_false_iff_ne.2 fun h => heq (WideShapes.bytes_inj h)
            have HNE := hide heq
            clear heq
            generalize hLI : (lows ss).getD i ⟨#[]⟩ = li at *
            go_wp2_with fail
            refine (unhide LI).mono ?_
            rintro e wB ⟨rfl, bB⟩
            have FB := hide ((unhide HB2).trans (bB.mono (unhide HB2).size))
            clear bB LI hci
            go_wp2
            go_roundw
            case rel =>
              refine ⟨i + 1, hlt, rfl, by go_num, FB, hide ?_⟩
              intro j hj
              rcases Nat.lt_or_ge j i with h | h
              · exact unhide HF j h
              · have : j = i := by omega
                subst this
                rw [hLI]; exact unhide HNE
            case measure => simp [RowKit.intOf]; omega
        · have e : i = ss.length := by omega
          subst e
          go_wp2_with fail
          refine (zzfind_any (.slice p9 ss.length cap) lq ⟨#[]⟩ none false wr (fun W hb => find_none p9 g ss.length cap _ Mp lq W (by omega) (unhide HF) (unhide HP9) (unhide HFW W ((unhide HB2).trans (hb.mono (unhide HB2).size))))).mono ?_
          rintro e wC ⟨rfl, bC⟩
          have FC := hide ((unhide HB2).trans (bC.mono (unhide HB2).size))
          clear bC
          go_wp2
          go_ret
          exact ⟨rfl, (unhide D4).trans (((unhide E9).trans (((unhide FC).alloc (unhide FC).size _).mono (unhide E9).size)).mono (unhide D4).size)⟩
end Go.Proofs.Qxb6000614aDoor
