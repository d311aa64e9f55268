/-
  THE LAW FnParseSignalsReadsWhatIsWritten: the row and the tied card of seat b6602621aD.
-/
import Derived.Test.Qxb6602621aDoorCards
import Derived.Test.Qxb6602621aDoorTie
import Derived.Test.Qxb6602621aDoorFr
import Derived.SevenTiedAt
namespace Go.Proofs.Qxb6602621aDoor
open Go.ChangeShapes Go.WideShapes Go.ChangeAt Go.RowKit Go.Lib

set_option maxHeartbeats 1000000 in
set_option maxRecDepth 100000 in
theorem law4_any (low high : Nat) (mips up : Bool) (p1 p2 : Option Addr) (c1 c2 : Nat) (l1 l2 : List UInt8) (w : World)
    (hn1 : p1 = none → l1 = [] ∧ c1 = 0) (hn2 : p2 = none → l2 = [] ∧ c2 = 0) (hV1 : View w p1 l1) (hV2 : View w p2 l2) (hT : Tabs w) (hS : Sents w)
    (h1 : low < 18446744073709551616) (h2 : high < 18446744073709551616) (hz1 : l1.length ≤ maxLen) (hz2 : l2.length ≤ maxLen) :
    Calls Tryd.prog 4 #[.int .u64 low, .int .u64 high, .bool mips, .bool up, .slice p1 l1.length c1, .slice p2 l2.length c2] w fun e w' => e = .returned (.bool true) ∧ Below w.heap.size w w' := by
  unfold maxLen at hz1 hz2
  by_cases hsum : l1.length + l2.length ≤ 1048576
  · have cB := bytes9 low high mips up p1 p2 l1.length c1 l2.length c2 w (by omega) (by omega)
    rw [decide_eq_true hsum] at cB
    by_cases ha1 : l1.length ≤ 524288
    · by_cases ha2 : l2.length ≤ 524288
      · exact law4_yes low high mips up p1 p2 c1 c2 l1 l2 w hn1 hn2 hV1 hV2 hT hS h1 h2 hsum ha1 ha2
      · clear hn1 hn2 hV1 hV2 hT hS h1 h2
        go_enter Tryd.func4, Tryd.ntmps4
        go_wp2_with fail
        refine cB.mono ?_
        rintro e W ⟨rfl, hW⟩
        subst hW
        go_wp2
        go_ret
        exact ⟨rfl, Below.refl _ _⟩
    · clear hn1 hn2 hV1 hV2 hT hS h1 h2
      go_enter Tryd.func4, Tryd.ntmps4
      go_wp2_with fail
      refine cB.mono ?_
      rintro e W ⟨rfl, hW⟩
      subst hW
      go_wp2
      go_ret
      exact ⟨rfl, Below.refl _ _⟩
  · have cB := bytes9 low high mips up p1 p2 l1.length c1 l2.length c2 w (by omega) (by omega)
    rw [decide_eq_false hsum] at cB
    clear hn1 hn2 hV1 hV2 hT hS h1 h2
    go_enter Tryd.func4, Tryd.ntmps4
    go_wp2_with fail
    refine cB.mono ?_
    rintro e W ⟨rfl, hW⟩
    subst hW
    go_wp2
    go_ret
    exact ⟨rfl, Below.refl _ _⟩

set_option maxRecDepth 100000 in
theorem liftedA (os : Os) (started : os.Started) (H : Type) (enc : TypeId × Value → H) :
    ReturnsInHanded {} Tryd.checked os 4 .any (fun w args => (Rows.fnParseSignalsReadsWhatIsWrittenSpec.pre enc Tryd.prog Tryd.f4 Rows.fnParseSignalsReadsWhatIsWrittenRow.domain false w args ∧ laidMetH Tryd.prog Rows.fnParseSignalsReadsWhatIsWrittenRow.laid w) ∧ sizedMet enc Tryd.prog Tryd.f4 (OpenSpec.ofChange Rows.fnParseSignalsReadsWhatIsWrittenSpec) false w args)
      (Rows.fnParseSignalsReadsWhatIsWrittenSpec.post enc Tryd.prog Tryd.f4 false true false false) := by
  refine returnsInHanded_of_change_and (C := Tryd.checked) (X := fun w _ => laidMetH Tryd.prog Rows.fnParseSignalsReadsWhatIsWrittenRow.laid w) (fun _ _ _ hh h => h.of_heap hh) own started (by kernel_rfl) Tryd.func4
    (ChangeSpec.witness_shaped (enc := enc) (C := Tryd.checked) (os := os) (X := fun w _ => laidMetH Tryd.prog Rows.fnParseSignalsReadsWhatIsWrittenRow.laid w) false (World.laidAll Tryd.prog os Rows.fnParseSignalsReadsWhatIsWrittenRow.laid) #[.int .u64 0, .int .u64 0, .bool false, .bool false, .slice none 0 0, .slice none 0 0] 8 (World.laidAll_os _ _ _)
      (World.shaped_of_ZipB (by kernel_rfl) (by kernel_rfl)) (by kernel_rfl) (by kernel_rfl) (by kernel_rfl)
      (by rw [MakeChecks.laidMetH_plain _ _ _ (by kernel_rfl)]; exact laidMet_laidAll _ (by kernel_rfl) (by kernel_rfl))) ?_
  intro W base args ds gs before hval0 hW _ _ hL _
  have hval : ∀ (j : Nat) t v, Tryd.f4.params[j]? = some t → args[j]? = some v → Value.okWide Tryd.prog W .any base t v := hval0
  have hW' := hW
  obtain ⟨p, q, hA0, hV, rfl, _, _⟩ := hW
  have hA : DataW.TrodAll enc Tryd.prog W 0 (fun _ => true) true Tryd.f4.params.toList args.toList ds p := hA0
  rw [Tryd.params4] at hA hval
  obtain ⟨v0, vs0, d0, ds0, p0, q0, hargs, rfl, rfl, h0, r0⟩ := trodAll_cons hA
  obtain ⟨v1, vs1, d1, ds1, p1, q1, rfl, rfl, rfl, h1, r1⟩ := trodAll_cons r0
  obtain ⟨v2, vs2, d2, ds2, p2, q2, rfl, rfl, rfl, h2, r2⟩ := trodAll_cons r1
  obtain ⟨v3, vs3, d3, ds3, p3, q3, rfl, rfl, rfl, h3, r3⟩ := trodAll_cons r2
  obtain ⟨v4, vs4, d4, ds4, p4, q4, rfl, rfl, rfl, h4, r4⟩ := trodAll_cons r3
  obtain ⟨v5, vs5, d5, ds5, p5, q5, rfl, rfl, rfl, h5, r5⟩ := trodAll_cons r4
  obtain ⟨rfl, rfl, rfl⟩ := trodAll_nil r5
  obtain rfl : args = #[v0, v1, v2, v3, v4, v5] := by cases args; simp_all
  obtain ⟨rfl, rfl⟩ := trodVars_none hV
  obtain ⟨x0, rfl, rfl, rfl, w0⟩ := open_int Tryd.underlying24 (hval 0 24 v0 rfl rfl) h0
  obtain ⟨x1, rfl, rfl, rfl, w1⟩ := open_int Tryd.underlying24 (hval 1 24 v1 rfl rfl) h1
  obtain ⟨b2, rfl, rfl, rfl⟩ := open_bool Tryd.underlying4 (hval 2 4 v2 rfl rfl) h2
  obtain ⟨b3, rfl, rfl, rfl⟩ := open_bool Tryd.underlying4 (hval 3 4 v3 rfl rfl) h3
  obtain ⟨a4, n4, c4, rfl⟩ := okWide_slice Tryd.underlying22 (hval 4 22 v4 rfl rfl)
  obtain ⟨a5, n5, c5, rfl⟩ := okWide_slice Tryd.underlying22 (hval 5 22 v5 rfl rfl)
  have lt4 : ∀ x ∈ p4, x.block < W.heap.size := by obtain ⟨m, hm⟩ := h4; exact DataW.trod_lt m _ _ _ hm
  have lt5 : ∀ x ∈ p5, x.block < W.heap.size := by obtain ⟨m, hm⟩ := h5; exact DataW.trod_lt m _ _ _ hm
  obtain ⟨l4, rfl, hc4, hV4, hn4, hm4⟩ := opened h4
  obtain ⟨l5, rfl, hc5, hV5, hn5, hm5⟩ := opened h5
  obtain ⟨hTb, hSb⟩ := tabs_of hL
  clear hA0 hval0
  have k24 : ∀ {z : Int}, (Lit.int .u64 z).wf = true → ∃ n : Nat, z = n ∧ n < 18446744073709551616 := fun {z} h => by
    have h1 : IntKind.u64.min = 0 := rfl
    have h2 : IntKind.u64.max = 18446744073709551615 := rfl
    simp only [Lit.wf, Bool.and_eq_true, decide_eq_true_eq] at h
    exact ⟨z.toNat, by omega, by omega⟩
  obtain ⟨m0, rfl, hm0⟩ := k24 w0
  obtain ⟨m1, rfl, hm1⟩ := k24 w1
  refine (law4_any m0 m1 b2 b3 a4 a5 c4 c5 l4 l5 W hn4 hn5 hV4 hV5 hTb hSb hm0 hm1 (Nat.le_trans hc4 hm4) (Nat.le_trans hc5 hm5)).mono fun e W' ⟨he, bel⟩ => ?_
  subst he
  exact ⟨_, rfl, _, _, _, [], _, [], hW', trodAll_mk1 (shut_bool Tryd.underlying4 _), (trodAll_cons_mk (shut_int Tryd.underlying24 w0) (trodAll_cons_mk (shut_int Tryd.underlying24 w1) (trodAll_cons_mk (shut_bool Tryd.underlying4 _) (trodAll_cons_mk (shut_bool Tryd.underlying4 _) (trodAll_cons_mk (Below.trod laidOut (by kernel_rfl) (of_decide_eq_true (by kernel_rfl)) h4 bel lt4) (trodAll_cons_mk (Below.trod laidOut (by kernel_rfl) (of_decide_eq_true (by kernel_rfl)) h5 bel lt5) trodAll_mk0)))))), rfl, bel.frame _, fun h => by cases h⟩

theorem holdsA : Rows.FnParseSignalsReadsWhatIsWrittenSaid :=
  OpenClaim.holds_of_wide 4 Tryd.f4 rfl rfl rfl rfl rfl rfl rfl ⟨rfl, rfl, rfl, rfl, rfl⟩ rfl rfl rfl rfl rfl (by kernel_rfl) Tryd.func4 (by kernel_rfl)
    (of_decide_eq_true (by kernel_rfl)) (by unfold Func.isWrapper; first | (rw [if_pos (by decide +kernel)]; kernel_rfl) | (rw [if_neg (by decide +kernel)]; exact ⟨rfl, rfl⟩))
    (fun os started H enc _ => liftedA os started H enc)

theorem cardA : Rows.FnParseSignalsReadsWhatIsWrittenCardSaid :=
  Claim7.holds_tied_plain_at .later [] [.data, .data, .data, .data, .sentinel, .sentinel, .listed, .data, .pinned] true Rows.fnParseSignalsReadsWhatIsWrittenCard.stood.harness true
    holdsA (fun _ h => by cases h) (by kernel_rfl) (fun _ h => by cases h) fnParseSignalsReadsWhatIsWritten_row_tie rfl ⟨rfl, rfl⟩ (by kernel_rfl) rfl
    (fun f fn hf hfn => by
      obtain rfl : f = 4 := Option.some.inj ((show Tryd.prog.funcNamed Rows.fnParseSignalsReadsWhatIsWrittenRow.func = some 4 by kernel_rfl).symm.trans hf) |>.symm
      obtain rfl : fn = Tryd.f4 := (Option.some.inj (Tryd.func4.symm.trans hfn)).symm
      exact ⟨by kernel_rfl, fun j t ht => by
        rw [Tryd.params4] at ht
        have hm : t ∈ [24, 24, 4, 4, 22, 22] := by simpa using Array.mem_of_getElem? ht
        have hall : ([24, 24, 4, 4, 22, 22].all fun u => !Tryd.prog.wantsStandIn u) = true := by kernel_rfl
        exact (show Tryd.prog.wantsStandIn t = false by simpa using List.all_eq_true.1 hall t hm)⟩)
    (by kernel_rfl)
end Go.Proofs.Qxb6602621aDoor
