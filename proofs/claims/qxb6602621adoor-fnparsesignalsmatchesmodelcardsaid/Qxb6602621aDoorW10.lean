/-
  WALKS of seat b6602621aD: the law FnParseSignalsReadsWhatIsWritten, whole.
-/
import Derived.Test.Qxb6602621aDoorW9
namespace Go.Proofs.Qxb6602621aDoor
open Go.RowKit Go.Lib

theorem appendHex_own (B : Nat) (v : Value) (bs : List UInt8) (x : Nat) (up : Bool) (w : World) (hlen : bs.length ≤ 1099511627776) (hB : B ≤ w.heap.size) (hown : Own B w v bs) :
    Calls Tryd.prog 11 #[v, .int .u64 x, .bool up] w fun e w' => (∃ v', e = .returned v' ∧ Own B w' v' (bs ++ hexK up x 16)) ∧ Below B w w' :=
  (appendHex_any B v bs x up w hlen hB hown).mono fun _ _ ⟨v', h1, h2, h3⟩ => ⟨⟨v', h1, h2⟩, h3⟩

/-- What the text that the law lays comes to. -/
theorem psig_text_t (up : Bool) (low high : Nat) (b a : List UInt8) (hb : Blank b) (ha : Blank a) (h1 : low < 18446744073709551616) (h2 : high < 18446744073709551616) :
    psig (trimSpaceD (b ++ (hexK up high 16 ++ (hexK up low 16 ++ a)))) = some low := by
  have e : b ++ (hexK up high 16 ++ (hexK up low 16 ++ a)) = b ++ (hexK up high 16 ++ hexK up low 16) ++ a := by simp
  rw [← trimSpaceU_eq, e, trim_two up low high b a hb ha, psig_two up low high h1 h2]
theorem psig_text_f (up : Bool) (low : Nat) (b a : List UInt8) (hb : Blank b) (ha : Blank a) (h1 : low < 18446744073709551616) :
    psig (trimSpaceD (b ++ (hexK up low 16 ++ a))) = some low := by
  have e : b ++ (hexK up low 16 ++ a) = b ++ hexK up low 16 ++ a := by simp
  rw [← trimSpaceU_eq, e, trim_one up low b a hb ha, psig_one up low h1]

set_option maxHeartbeats 1000000 in
set_option maxRecDepth 100000 in
theorem law4_yes (low high : Nat) (mips up : Bool) (p1 p2 : Option Addr) (c1 c2 : Nat) (l1 l2 : List UInt8) (w : World)
    (hn1 : p1 = none → l1 = [] ∧ c1 = 0) (hn2 : p2 = none → l2 = [] ∧ c2 = 0) (hV1 : View w p1 l1) (hV2 : View w p2 l2) (hT : Tabs w) (hS : Sents w)
    (h1 : low < 18446744073709551616) (h2 : high < 18446744073709551616)
    (hsum : l1.length + l2.length ≤ 1048576) (ha1 : l1.length ≤ 524288) (ha2 : l2.length ≤ 524288) :
    Calls Tryd.prog 4 #[.int .u64 low, .int .u64 high, .bool mips, .bool up, .slice p1 l1.length c1, .slice p2 l2.length c2] w fun e w' => e = .returned (.bool true) ∧ Below w.heap.size w w' := by
  obtain ⟨i0, hi, hz0, hz1, hz2⟩ := info_parts Tryd.info5
  have cB := bytes9 low high mips up p1 p2 l1.length c1 l2.length c2 w (by omega) (by omega)
  rw [decide_eq_true hsum] at cB
  have cS1 := isAllSpace_any p1 c1 l1 w (by omega) hV1
  have cS2 := isAllSpace_any p2 c2 l2 w (by omega) hV2
  have HT := hide hT
  have HS := hide hS
  have HV1 := hide hV1
  have HV2 := hide hV2
  have HN1 := hide hn1
  have HN2 := hide hn2
  have HL := hide h1
  have HH := hide h2
  clear hT hS hV1 hV2 hn1 hn2 h1 h2
  go_enter Tryd.func4, Tryd.ntmps4
  go_wp2_with fail
  refine cB.mono ?_
  rintro e W ⟨rfl, hW⟩
  subst hW
  clear cB
  go_wp2_with fail
  refine cS1.mono ?_
  rintro e W2 ⟨⟨v, rfl, hbl1⟩, hW⟩
  subst hW
  clear cS1
  have HB1 := hide hbl1
  clear hbl1
  cases v with
  | false =>
    go_wp2
    go_ret
    exact ⟨rfl, Below.refl _ _⟩
  | true =>
    go_wp2_with fail
    refine cS2.mono ?_
    rintro e W3 ⟨⟨v, rfl, hbl2⟩, hW⟩
    subst hW
    clear cS2
    have HB2 := hide hbl2
    clear hbl2
    cases v with
    | false =>
      go_wp2
      go_ret
      exact ⟨rfl, Below.refl _ _⟩
    | true =>
      have HpsT := hide (psig_text_t up low high l1 l2 ((unhide HB1) (by trivial)) ((unhide HB2) (by trivial)) (unhide HL) (unhide HH))
      have HpsF := hide (psig_text_f up low l1 l2 ((unhide HB1) (by trivial)) ((unhide HB2) (by trivial)) (unhide HL))
      go_wp2_with (at_make; refine wpList_make_own _ rfl _ _ 22 rfl W3.heap.size 5 i0 (.int .u8 0) 1 Tryd.underlying22 hi hz0 hz1 _ _ _ (l1.length + 32 + l2.length) rfl rfl (by omega) ?b2 ?b3 (Nat.le_refl _) ?_)
      case b2 => rw [hz2]; omega
      case b3 => unfold maxLen; omega
      intro w0 hown0 hgrow0
      have hb0 : Below W3.heap.size W3 w0 := (Below.refl _ _).grown hgrow0 (Nat.le_refl _) (fun k h => by cases h)
      have ho0 : Own W3.heap.size w0 (.slice (some ⟨W3.heap.size, 0, none⟩) 0 (l1.length + 32 + l2.length)) [] := hown0
      clear hown0 hgrow0
      go_wp2_with (at_builtin; refine app_src rfl (.tmp 45) (.tmp 46) rfl W3.heap.size _ [] rfl ho0 p1 l1 c1 rfl (unhide HN1) ((unhide HV1).below hb0) (by simp; omega) hb0.size ?_)
      intro v1 w1 ho1 hb1
      have hb1 := hb0.trans hb1
      clear ho0
      cases mips with
      | true =>
        go_wp2_with fail
        refine (appendHex_own W3.heap.size v1 _ high up _ ?_ ?_ ho1).mono ?_
        · first | omega | (simp; omega)
        · exact hb1.size
        rintro e w2 ⟨⟨v2, rfl, ho2⟩, hb2⟩
        have hb2 := hb1.trans hb2
        clear ho1
        go_wp2_with fail
        refine (appendHex_own W3.heap.size v2 _ low up _ ?_ ?_ ho2).mono ?_
        · simp [hexK_length]; omega
        · exact hb2.size
        rintro e w3 ⟨⟨v3, rfl, ho3⟩, hb3⟩
        have hb3 := hb2.trans hb3
        clear ho2
        go_wp2_with (at_builtin; refine app_src rfl (.tmp 57) (.tmp 58) rfl W3.heap.size _ _ rfl ho3 p2 l2 c2 rfl (unhide HN2) ((unhide HV2).below hb3) (by simp [hexK_length]; omega) hb3.size ?_)
        intro v4 w4 ho4 hb4
        have hb4 := hb3.trans hb4
        clear ho3
        obtain ⟨g, cap, hv4, hc4, hH4⟩ := ho4.has (by simp [hexK_length]; omega)
        have cZ := zzParse _ _ _ (parseSig g 0 cap _ w4 hc4 (by simp [hexK_length]; omega) hH4 ((unhide HT).below hb4) ((unhide HS).below hb4))
        rw [unhide HpsT] at cZ
        rw [← hv4] at cZ
        clear hH4 ho4 hc4 hv4
        go_wp2_with fail
        refine cZ.mono ?_
        rintro e w5 ⟨he, hb5⟩
        obtain rfl : e = _ := he
        clear cZ
        go_wp2
        go_ret
        exact ⟨rfl, hb4.trans (hb5.mono hb4.size)⟩
      | false =>
        go_wp2_with fail
        refine (appendHex_own W3.heap.size v1 _ low up _ ?_ ?_ ho1).mono ?_
        · first | omega | (simp; omega)
        · exact hb1.size
        rintro e w3 ⟨⟨v3, rfl, ho3⟩, hb3⟩
        have hb3 := hb1.trans hb3
        clear ho1
        go_wp2_with (at_builtin; refine app_src rfl (.tmp 57) (.tmp 58) rfl W3.heap.size _ _ rfl ho3 p2 l2 c2 rfl (unhide HN2) ((unhide HV2).below hb3) (by simp [hexK_length]; omega) hb3.size ?_)
        intro v4 w4 ho4 hb4
        have hb4 := hb3.trans hb4
        clear ho3
        obtain ⟨g, cap, hv4, hc4, hH4⟩ := ho4.has (by simp [hexK_length]; omega)
        have cZ := zzParse _ _ _ (parseSig g 0 cap _ w4 hc4 (by simp [hexK_length]; omega) hH4 ((unhide HT).below hb4) ((unhide HS).below hb4))
        rw [unhide HpsF] at cZ
        rw [← hv4] at cZ
        clear hH4 ho4 hc4 hv4
        go_wp2_with fail
        refine cZ.mono ?_
        rintro e w5 ⟨he, hb5⟩
        obtain rfl : e = _ := he
        clear cZ
        go_wp2
        go_ret
        exact ⟨rfl, hb4.trans (hb5.mono hb4.size)⟩
end Go.Proofs.Qxb6602621aDoor
