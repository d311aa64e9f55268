/-
  WALKS of seat b6000614aD: the law FnParseChallengesRoundTrip.
-/
import Derived.Test.Qxb6000614aDoorW15
set_option linter.unusedVariables false
namespace Go.Proofs.Qxb6000614aDoor
open Go.RowKit Go.Lib

/-- A slice of strings, as it comes in. -/
structure Inp (w : World) (p : Option Addr) (c : Nat) (ss : List ByteArray) : Prop where
  len : ss.length ≤ maxLen
  nil : p = none → c = 0
  view : ViewS w p ss

theorem new_cell (w : World) (v : Value) (t : TypeId) : (w.alloc (.cells #[v] t)).cell? ⟨w.heap.size, 0, none⟩ = some v := by
  have := heap_alloc_new w (.cells #[v] t)
  unfold World.cell?
  rw [this]
  rfl
theorem hd2_len (sa : ByteArray) (na va : List ByteArray) (sb : ByteArray) (nb vb : List ByteArray) (h1 : sa.size ≤ 1048576) (h2 : sb.size ≤ 1048576) (h3 : (rps true (prms na va)).length ≤ 4194304) (h4 : (rps true (prms nb vb)).length ≤ 4194304) : (hd2 sa na va sb nb vb).length ≤ 1099511627776 := by
  unfold hd2
  simp
  omega
set_option maxHeartbeats 4000000 in
set_option maxRecDepth 100000 in
theorem law3_any (sa sb : ByteArray) (pna pva pnb pvb : Option Addr) (cna cva cnb cvb : Nat) (na va nb vb : List ByteArray) (w : World) (hsa : sa.size ≤ maxLen) (hsb : sb.size ≤ maxLen)
    (hna : Inp w pna cna na) (hva : Inp w pva cva va) (hnb : Inp w pnb cnb nb) (hvb : Inp w pvb cvb vb) :
    Calls Tryd.prog 3 #[.string sa, .slice pna na.length cna, .slice pva va.length cva, .string sb, .slice pnb nb.length cnb, .slice pvb vb.length cvb] w fun e w' => e = .returned (.bool true) ∧ Below w.heap.size w w' := by
  have Hna := hide hna
  have Hva := hide hva
  have Hnb := hide hnb
  have Hvb := hide hvb
  have C7 := hide (bytes7 sa sb pna cna na pva cva va pnb cnb nb pvb cvb vb w hsa hna.len hna.view hva.len hva.view hsb hnb.len hnb.view hvb.len hvb.view)
  have S1 := hide (strsBytes_any pna cna na w hna.len hna.view)
  have S2 := hide (strsBytes_any pva cva va w hva.len hva.view)
  have S3 := hide (strsBytes_any pnb cnb nb w hnb.len hnb.view)
  have S4 := hide (strsBytes_any pvb cvb vb w hvb.len hvb.view)
  clear hna hva hnb hvb
  unfold maxLen at hsa hsb
  have gsa : (0 : Int) ≤ (sa.size : Int) := by omega
  have gsb : (0 : Int) ≤ (sb.size : Int) := by omega
  go_enter Tryd.func3, Tryd.ntmps3
  go_wp2_with fail
  refine (unhide C7).mono ?_
  rintro e W ⟨⟨v0, rfl⟩, hw⟩
  have hw2 := hw.symm; subst hw2
  clear hw C7
  cases v0 with
  | false =>
    go_wp2
    go_ret
    exact ⟨rfl, Below.refl _ _⟩
  | true =>
    by_cases ka : (1048576 : Int) < (sa.size : Int)
    · go_wp2
      go_ret
      exact ⟨rfl, Below.refl _ _⟩
    have ka' : (sa.size : Int) ≤ 1048576 := by omega
    clear ka
    by_cases kb : (1048576 : Int) < (sb.size : Int)
    · go_wp2
      go_ret
      exact ⟨rfl, Below.refl _ _⟩
    have kb' : (sb.size : Int) ≤ 1048576 := by omega
    clear kb
    go_wp2_with fail
    refine (unhide S1).mono ?_
    rintro e W ⟨⟨r1, rfl, p1, q1, t1⟩, hw⟩
    have hw2 := hw.symm; subst hw2
    have T1 := hide t1
    clear hw t1 S1
    go_wp2_with fail
    refine (unhide S2).mono ?_
    rintro e W ⟨⟨r2, rfl, p2, q2, t2⟩, hw⟩
    have hw2 := hw.symm; subst hw2
    have T2 := hide t2
    clear hw t2 S2
    go_wp2_with fail
    refine (unhide S3).mono ?_
    rintro e W ⟨⟨r3, rfl, p3, q3, t3⟩, hw⟩
    have hw2 := hw.symm; subst hw2
    have T3 := hide t3
    clear hw t3 S3
    go_wp2_with fail
    refine (unhide S4).mono ?_
    rintro e W ⟨⟨r4, rfl, p4, q4, t4⟩, hw⟩
    have hw2 := hw.symm; subst hw2
    have T4 := hide t4
    clear hw t4 S4
    by_cases ks : (1048576 : Int) < r1 + r2 + r3 + r4 + (sa.size : Int) + (sb.size : Int)
    · go_wp2
      go_ret
      exact ⟨rfl, Below.refl _ _⟩
    have ks' : r1 + r2 + r3 + r4 + (sa.size : Int) + (sb.size : Int) ≤ 1048576 := by omega
    clear ks
    have B1 := hide (show sB na ≤ 1048576 by have := unhide T1 (by omega); omega)
    have B2 := hide (show sB va ≤ 1048576 by have := unhide T2 (by omega); omega)
    have B3 := hide (show sB nb ≤ 1048576 by have := unhide T3 (by omega); omega)
    have B4 := hide (show sB vb ≤ 1048576 by have := unhide T4 (by omega); omega)
    have hla : (na.length : Int) ≤ 65536 := by have := sB_len na; have := unhide B1; omega
    have hlva : (va.length : Int) ≤ 65536 := by have := sB_len va; have := unhide B2; omega
    have hlb : (nb.length : Int) ≤ 65536 := by have := sB_len nb; have := unhide B3; omega
    have hlvb : (vb.length : Int) ≤ 65536 := by have := sB_len vb; have := unhide B4; omega
    clear T1 T2 T3 T4
    by_cases ea : va.length = na.length
    · by_cases eb : vb.length = nb.length
      · have EA := hide ea
        have EB := hide eb
        have ean : ((va.length : Int) != (na.length : Int)) = false := by simp [ea]
        have ebn : ((vb.length : Int) != (nb.length : Int)) = false := by simp [eb]
        clear ea eb
        have K1 := hide (isToken_any sa w (by omega))
        have K2 := hide (isToken_any sb w (by omega))
        have K3 := hide (allTokens_any pna cna na w (by omega) (fun t ht => by have := sB_mem ht; have := unhide B1; omega) (unhide Hna).view)
        have K4 := hide (allTokens_any pnb cnb nb w (by omega) (fun t ht => by have := sB_mem ht; have := unhide B3; omega) (unhide Hnb).view)
        cases h1 : isTokenB sa.data.toList with
        | false =>
          rw [h1] at K1
          clear h1
          go_wp2_with fail
          refine (unhide K1).mono ?_
          rintro e W ⟨rfl, hw⟩
          have hw2 := hw.symm; subst hw2
          go_wp2
          go_ret
          exact ⟨rfl, Below.refl _ _⟩
        | true =>
        rw [h1] at K1
        have H1 := hide h1
        clear h1
        go_wp2_with fail
        refine (unhide K1).mono ?_
        rintro e W ⟨rfl, hw⟩
        have hw2 := hw.symm; subst hw2
        clear hw K1
        cases h2 : isTokenB sb.data.toList with
        | false =>
          rw [h2] at K2
          clear h2
          go_wp2_with fail
          refine (unhide K2).mono ?_
          rintro e W ⟨rfl, hw⟩
          have hw2 := hw.symm; subst hw2
          go_wp2
          go_ret
          exact ⟨rfl, Below.refl _ _⟩
        | true =>
        rw [h2] at K2
        have H2 := hide h2
        clear h2
        go_wp2_with fail
        refine (unhide K2).mono ?_
        rintro e W ⟨rfl, hw⟩
        have hw2 := hw.symm; subst hw2
        clear hw K2
        cases h3 : (na.all fun t => isTokenB t.data.toList) with
        | false =>
          rw [h3] at K3
          clear h3
          go_wp2_with fail
          refine (unhide K3).mono ?_
          rintro e W ⟨rfl, hw⟩
          have hw2 := hw.symm; subst hw2
          go_wp2
          go_ret
          exact ⟨rfl, Below.refl _ _⟩
        | true =>
        rw [h3] at K3
        have H3 := hide h3
        clear h3
        go_wp2_with fail
        refine (unhide K3).mono ?_
        rintro e W ⟨rfl, hw⟩
        have hw2 := hw.symm; subst hw2
        clear hw K3
        cases h4 : (nb.all fun t => isTokenB t.data.toList) with
        | false =>
          rw [h4] at K4
          clear h4
          go_wp2_with fail
          refine (unhide K4).mono ?_
          rintro e W ⟨rfl, hw⟩
          have hw2 := hw.symm; subst hw2
          go_wp2
          go_ret
          exact ⟨rfl, Below.refl _ _⟩
        | true =>
        rw [h4] at K4
        have H4 := hide h4
        clear h4
        go_wp2_with fail
        refine (unhide K4).mono ?_
        rintro e W ⟨rfl, hw⟩
        have hw2 := hw.symm; subst hw2
        clear hw K4
        have HPR := hide (prs_hd2 sa na va sb nb vb ((isTokenB_iff _).1 (unhide H1)) ((isTokenB_iff _).1 (unhide H2)) (allTok na (unhide H3)) (allTok nb (unhide H4)))
        have HZ1 : Hid (∀ x ∈ na, x.size ≤ 1048576) := hide fun t ht => by have := sB_mem ht; have := unhide B1; omega
        have HZ2 : Hid (∀ x ∈ va, x.size ≤ 1048576) := hide fun t ht => by have := sB_mem ht; have := unhide B2; omega
        have HZ3 : Hid (∀ x ∈ nb, x.size ≤ 1048576) := hide fun t ht => by have := sB_mem ht; have := unhide B3; omega
        have HZ4 : Hid (∀ x ∈ vb, x.size ≤ 1048576) := hide fun t ht => by have := sB_mem ht; have := unhide B4; omega
        have HR1 := hide (show (rps true (prms na va)).length ≤ 4194304 by have := rps_len na va true; have := unhide B1; have := unhide B2; omega)
        have HR2 := hide (show (rps true (prms nb vb)).length ≤ 4194304 by have := rps_len nb vb true; have := unhide B3; have := unhide B4; omega)
        clear H1 H2 H3 H4 B1 B2 B3 B4 p1 q1 p2 q2 p3 q3 p4 q4 ks'
        have hN1 : na.length ≤ 1048576 := by omega
        have hN2 : va.length ≤ 1048576 := by omega
        have hN3 : nb.length ≤ 1048576 := by omega
        have hN4 : vb.length ≤ 1048576 := by omega
        have hSa : sa.size ≤ 1048576 := by omega
        have hSb : sb.size ≤ 1048576 := by omega
        clear hla hlva hlb hlvb hsa hsb gsa gsb ka' kb' ean ebn
        -- the four copies
        go_wp2_with fail
        refine (clone_any pna cna na w hN1 (unhide Hna).nil (unhide Hna).view).mono ?_
        rintro e w1 ⟨⟨p1, c1, rfl, n1, v1⟩, b1⟩
        have V1 := hide v1
        have D1 := hide b1
        clear n1 v1 b1
        go_wp2_with fail
        refine (clone_any pva cva va w1 hN2 (unhide Hva).nil ((unhide Hva).view.below (unhide D1))).mono ?_
        rintro e w2 ⟨⟨p2, c2, rfl, n2, v2⟩, b2⟩
        have V1 := hide ((unhide V1).below b2)
        have V2 := hide v2
        have D2 := hide ((unhide D1).trans (b2.mono (unhide D1).size))
        clear n2 v2 b2
        go_wp2_with fail
        refine (clone_any pnb cnb nb w2 hN3 (unhide Hnb).nil ((unhide Hnb).view.below (unhide D2))).mono ?_
        rintro e w3 ⟨⟨p3, c3, rfl, n3, v3⟩, b3⟩
        have V1 := hide ((unhide V1).below b3)
        have V2 := hide ((unhide V2).below b3)
        have V3 := hide v3
        have D3 := hide ((unhide D2).trans (b3.mono (unhide D2).size))
        clear n3 v3 b3
        go_wp2_with fail
        refine (clone_any pvb cvb vb w3 hN4 (unhide Hvb).nil ((unhide Hvb).view.below (unhide D3))).mono ?_
        rintro e w4 ⟨⟨p4, c4, rfl, n4, v4⟩, b4⟩
        have V1 := hide ((unhide V1).below b4)
        have V2 := hide ((unhide V2).below b4)
        have V3 := hide ((unhide V3).below b4)
        have V4 := hide v4
        have D4 := hide ((unhide D3).trans (b4.mono (unhide D3).size))
        clear n4 v4 b4 D1 D2 D3 Hna Hva Hnb Hvb
        -- the header
        obtain ⟨i0, hi, hz0, hz1, hz2⟩ := info_parts Tryd.info5
        go_wp2_with (at_make; refine wpList_make_own _ rfl _ _ 28 rfl w4.heap.size 5 i0 (.int .u8 0) 1 Tryd.underlying28 hi hz0 hz1 _ _ _ 1024 rfl rfl rfl ?b2 ?b3 (Nat.le_refl _) ?_)
        case b2 => rw [hz2]; omega
        case b3 => unfold maxLen; omega
        intro w5 hown0 hgrow0
        have E5 := hide (show Below w4.heap.size w4 w5 from (Below.refl _ _).grown hgrow0 (Nat.le_refl _) (fun k h => by cases h))
        have O5 : Hid (Own w4.heap.size w5 (.slice (some ⟨w4.heap.size, 0, none⟩) 0 1024) []) := hide hown0
        clear hown0 hgrow0
        go_wp2_with fail
        refine (chal_any w4.heap.size _ [] sa p1 p2 c1 c2 na va w5 (unhide EA) hN1 (unhide HZ2) (by have := unhide HR1; simp; omega) (unhide E5).size (unhide O5) ((unhide V1).below (unhide E5)) ((unhide V2).below (unhide E5)) (unhide V1).lt (unhide V2).lt).mono ?_
        rintro e w6 ⟨v6, rfl, o6, b6⟩
        have O6 := hide o6
        have E6 := hide ((unhide E5).trans b6)
        have z6 : w4.heap.size ≤ w6.heap.size := (unhide E6).size
        clear o6 b6 O5
        go_wp2_with (at_builtin; refine app_cells rfl _ _ rfl w4.heap.size _ _ rfl ((unhide O6).alloc _) ⟨w6.heap.size, 0, none⟩ [44, 32] 2 rfl (lit_cells _ _ _ rfl) (by have := unhide HR1; simp; omega) (size_up' z6 _) ?_)
        intro v7 w7 o7 b7
        have O7 := hide o7
        have E7 := hide (below_al (unhide E6) z6 b7)
        clear o7 b7 O6
        go_wp2_with fail
        refine (chal_any w4.heap.size _ _ sb p3 p4 c3 c4 nb vb w7 (unhide EB) hN3 (unhide HZ4) (by have := unhide HR1; have := unhide HR2; simp; omega) (unhide E7).size (unhide O7) ((unhide V3).below (unhide E7)) ((unhide V4).below (unhide E7)) (unhide V3).lt (unhide V4).lt).mono ?_
        rintro e w8 ⟨v8, rfl, o8, b8⟩
        have O8 : Hid (Own w4.heap.size w8 v8 (hd2 sa na va sb nb vb)) := hide (by unfold hd2; simpa using o8)
        have E8 := hide ((unhide E7).trans b8)
        clear o8 b8 O7
        have HLN := hide (hd2_len sa na va sb nb vb (by omega) (by omega) (unhide HR1) (unhide HR2))
        have hcv := (unhide O8).conv
        generalize hd2 sa na va sb nb vb = hh at *
        go_wp2_with fail
        clear hcv
        refine (parse13 w8.heap.size 0 1 ⟨hh.toArray⟩ _ (unhide HLN) (new_cell _ _ _)).mono ?_
        rintro e w9 ⟨v9, xs, M, rfl, hr9, hc9, b9⟩
        have hpr := unhide HPR
        rw [show (⟨hh.toArray⟩ : ByteArray).data.toList = hh from rfl, hpr] at hr9 hc9
        obtain ⟨g, cap, ta, ma, qa, mb, qb, tb, rfl, x0, x1, x2, x3, rfl, rfl, m1, m2⟩ := two_chs hr9 hc9
        have E9 := hide (below_al (unhide E8) (unhide E8).size (b9.mono (by simp; have := (unhide E8).size; omega)))
        have M1 := hide m1
        have M2 := hide m2
        have X : Hid (∀ W, Below w9.heap.size w9 W → W.cell? ⟨g, 0, none⟩ = some (.string ⟨(toLowerA sa.data.toList).toArray⟩) ∧ W.cell? ⟨g, 1, none⟩ = some (.map (some ma)) ∧ W.cell? ⟨g, 2, none⟩ = some (.string ⟨(toLowerA sb.data.toList).toArray⟩) ∧ W.cell? ⟨g, 3, none⟩ = some (.map (some mb))) := hide fun W hb => by
          have hlt := World.block_lt_of_cell? w9 _ x0
          exact ⟨(hb.cell (p := ⟨g, 0, none⟩) hlt).trans x0, (hb.cell (p := ⟨g, 1, none⟩) hlt).trans x1, (hb.cell (p := ⟨g, 2, none⟩) hlt).trans x2, (hb.cell (p := ⟨g, 3, none⟩) hlt).trans x3⟩
        clear x0 x1 x2 x3 m1 m2 hr9 hc9 b9 hpr HPR O8
        have L1 := fun W => hide (lower_any sa W (by omega))
        have L2 := fun W => hide (lower_any sb W (by omega))
        generalize (⟨(toLowerA sa.data.toList).toArray⟩ : ByteArray) = la at *
        generalize (⟨(toLowerA sb.data.toList).toArray⟩ : ByteArray) = lb at *
        obtain ⟨y0, y1, y2, y3⟩ := unhide X w9 (Below.refl _ _)
        have L1 := hide L1
        have L2 := hide L2
        go_wp2_with fail
        refine (scheme_any la (some ma) w9).mono ?_
        rintro e wA ⟨rfl, bA⟩
        have FA := hide bA
        clear bA
        go_wp2_with fail
        refine (unhide (unhide L1 wA)).mono ?_
        rintro e wB ⟨rfl, bB⟩
        have FB := hide ((unhide FA).trans (bB.mono (unhide FA).size))
        clear bB FA y0 y1 y2 y3
        obtain ⟨y0, y1, y2, y3⟩ := unhide X wB (unhide FB)
        go_wp2_with fail
        refine (scheme_any lb (some mb) wB).mono ?_
        rintro e wC ⟨rfl, bC⟩
        have FC := hide ((unhide FB).trans (bC.mono (unhide FB).size))
        clear bC FB
        go_wp2_with fail
        refine (unhide (unhide L2 wC)).mono ?_
        rintro e wD ⟨rfl, bD⟩
        have FD := hide ((unhide FC).trans (bD.mono (unhide FC).size))
        clear bD FC y0 y1 y2 y3
        obtain ⟨y0, y1, y2, y3⟩ := unhide X wD (unhide FD)
        have ED := hide ((unhide E9).trans ((unhide FD).mono (unhide E9).size))
        go_wp2_with fail
        refine (match_any la ma qa p1 p2 c1 c2 na va wD (unhide EA) hN1 (unhide HZ1) ((unhide V1).below (unhide ED)) ((unhide V2).below (unhide ED)) ((unhide M1).grew (unhide FD))).mono ?_
        rintro e wE ⟨rfl, bE⟩
        have FE := hide ((unhide FD).trans (bE.mono (unhide FD).size))
        clear bE y0 y1 y2 y3
        obtain ⟨y0, y1, y2, y3⟩ := unhide X wE (unhide FE)
        have EE := hide ((unhide E9).trans ((unhide FE).mono (unhide E9).size))
        go_wp2_with fail
        refine (match_any lb mb qb p3 p4 c3 c4 nb vb wE (unhide EB) hN3 (unhide HZ3) ((unhide V3).below (unhide EE)) ((unhide V4).below (unhide EE)) ((unhide M2).grew (unhide FE))).mono ?_
        rintro e wF ⟨rfl, bF⟩
        have EF := hide ((unhide EE).trans (bF.mono (unhide EE).size))
        clear bF
        go_wp2
        go_ret
        exact ⟨rfl, (unhide D4).trans ((unhide EF).mono (unhide D4).size)⟩
      · have ean : ((va.length : Int) != (na.length : Int)) = false := by simp [ea]
        have ebn : ((vb.length : Int) != (nb.length : Int)) = true := by simp; omega
        have EA := hide ea
        clear ea eb
        go_wp2
        go_ret
        exact ⟨rfl, Below.refl _ _⟩
    · have ean : ((va.length : Int) != (na.length : Int)) = true := by simp; omega
      clear ea
      go_wp2
      go_ret
      exact ⟨rfl, Below.refl _ _⟩
end Go.Proofs.Qxb6000614aDoor
