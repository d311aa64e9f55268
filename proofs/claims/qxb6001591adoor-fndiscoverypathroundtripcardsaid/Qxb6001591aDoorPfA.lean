/-
  THE LAW FnDiscoveryPathRoundTrip: the row and the tied card of seat b6001591aD.
-/
import Derived.Test.Qxb6001591aDoorRows
import Derived.Test.Qxb6001591aDoorCards
import Derived.Test.Qxb6001591aDoorTie
import Derived.Test.Qxb6001591aDoorW4
import Derived.ProofKit
import Derived.OpenShut
import Derived.LaidMore
import Derived.Lay
import Derived.PinnedBridge
import Derived.SevenTiedAt
import Derived.HandedShaped
import Derived.Shelf.Vars
namespace Go.Proofs.Qxb6001591aDoor
open Go.ChangeShapes Go.WideShapes Go.ChangeAt Go.RowKit Go.Lib

theorem own : ownKnob Tryd.prog.godebug = none := by kernel_rfl

set_option maxRecDepth 100000 in
theorem liftedA (os : Os) (started : os.Started) (H : Type) (enc : TypeId × Value → H) :
    ReturnsInHanded {} Tryd.checked os 4 .any (fun w args => (Rows.fnDiscoveryPathRoundTripSpec.pre enc Tryd.prog Tryd.f4 Rows.fnDiscoveryPathRoundTripRow.domain false w args ∧ laidMetH Tryd.prog Rows.fnDiscoveryPathRoundTripRow.laid w) ∧ sizedMet enc Tryd.prog Tryd.f4 (OpenSpec.ofChange Rows.fnDiscoveryPathRoundTripSpec) false w args)
      (Rows.fnDiscoveryPathRoundTripSpec.post enc Tryd.prog Tryd.f4 false true false false) := by
  refine returnsInHanded_of_calls (C := Tryd.checked) own started (by kernel_rfl)
    (ChangeSpec.witness_shaped (enc := enc) (C := Tryd.checked) (os := os) (X := fun w _ => laidMetH Tryd.prog Rows.fnDiscoveryPathRoundTripRow.laid w) false (World.laidAll Tryd.prog os Rows.fnDiscoveryPathRoundTripRow.laid) #[.int .i64 0, .bool false, .string ⟨#[]⟩, .string ⟨#[]⟩] 8 (World.laidAll_os _ _ _)
      (World.shaped_of_ZipB (by kernel_rfl) (by kernel_rfl)) (by kernel_rfl) (by kernel_rfl) (by kernel_rfl)
      (by rw [MakeChecks.laidMetH_plain _ _ _ (by kernel_rfl)]; exact laidMet_laidAll _ (by kernel_rfl) (by kernel_rfl))) ?_
  intro w tape i _ hsh0 _ hok hpre _
  obtain ⟨_, _, _, fn, hfn, _, _, _, _, hval0⟩ := hok
  obtain rfl : fn = Tryd.f4 := (Option.some.inj (Tryd.func4.symm.trans hfn)).symm
  obtain ⟨⟨⟨ds, gs, before, hw, _⟩, _⟩, _⟩ := hpre
  have hW := DataW.Whole.of_heap (w' := w.forCall tape i) (by rfl) hw
  have hval : ∀ (j : Nat) t v, Tryd.f4.params[j]? = some t → i.args[j]? = some v → Value.okWide Tryd.prog (w.forCall tape i) .any w.heap.size t v := hval0
  have hsh : (w.forCall tape i).ShapedOpen Tryd.prog := hsh0
  suffices hS : Calls Tryd.prog 4 i.args (w.forCall tape i) fun e W' => ∃ v, e = .returned v ∧ Rows.fnDiscoveryPathRoundTripSpec.post enc Tryd.prog Tryd.f4 false true false false (w.forCall tape i) i.args v W' from
    hS.mono fun e W' h => by
      obtain ⟨v, he, hp⟩ := h
      subst he
      exact ChangeSpec.post_blind hp
  clear hw hval0 hsh0
  generalize w.forCall tape i = W at *
  generalize i.args = args at *
  generalize w.heap.size = base at *
  obtain ⟨m, hm⟩ := cell_of_shapedOpen_int (P := Tryd.prog) (g := 0) (t := 3) (zero := #[.int .i64 0]) hsh (of_decide_eq_true (by kernel_rfl)) (by kernel_rfl) rfl (by kernel_rfl) (by kernel_rfl) Tryd.underlying3
  have hW' := hW
  obtain ⟨p, q, hA0, hV, rfl, _, _⟩ := hW
  have hA : DataW.TrodAll enc Tryd.prog W 0 (fun _ => true) true Tryd.f4.params.toList args.toList ds p := hA0
  rw [Tryd.params4] at hA hval
  obtain ⟨v0, vs0, d0, ds0, p0, q0, hargs, rfl, rfl, h0, r0⟩ := trodAll_cons hA
  obtain ⟨v1, vs1, d1, ds1, p1, q1, rfl, rfl, rfl, h1, r1⟩ := trodAll_cons r0
  obtain ⟨v2, vs2, d2, ds2, p2, q2, rfl, rfl, rfl, h2, r2⟩ := trodAll_cons r1
  obtain ⟨v3, vs3, d3, ds3, p3, q3, rfl, rfl, rfl, h3, r3⟩ := trodAll_cons r2
  obtain ⟨rfl, rfl, rfl⟩ := trodAll_nil r3
  obtain rfl : args = #[v0, v1, v2, v3] := by cases args; simp_all
  obtain ⟨rfl, rfl⟩ := trodVars_none hV
  obtain ⟨doc, rfl, rfl, rfl, wf0⟩ := open_int Tryd.underlying3 (hval 0 3 v0 rfl rfl) h0
  obtain ⟨core, rfl, rfl, rfl⟩ := open_bool Tryd.underlying4 (hval 1 4 v1 rfl rfl) h1
  obtain ⟨s2, rfl, rfl, rfl, z2⟩ := ChangeMaps.open_string Tryd.underlying9 (hval 2 9 v2 rfl rfl) h2
  obtain ⟨s3, rfl, rfl, rfl, z3⟩ := ChangeMaps.open_string Tryd.underlying9 (hval 3 9 v3 rfl rfl) h3
  clear hA0
  refine (law_any doc core s2 s3 m W z2 z3 hm).mono fun e W' ⟨he, bel⟩ => ?_
  subst he
  exact ⟨_, rfl, _, _, _, [], _, [], hW', trodAll_mk1 (shut_bool Tryd.underlying4 _), (trodAll_cons_mk (shut_int Tryd.underlying3 wf0) (trodAll_cons_mk (shut_bool Tryd.underlying4 _) (trodAll_cons_mk (ChangeMaps.shut_string Tryd.underlying9 z2) (trodAll_cons_mk (ChangeMaps.shut_string Tryd.underlying9 z3) trodAll_mk0)))), rfl, bel.frame _, fun h => by cases h⟩

theorem holdsA : Rows.FnDiscoveryPathRoundTripSaid :=
  OpenClaim.holds_of_wide 4 Tryd.f4 rfl rfl rfl rfl rfl rfl rfl ⟨rfl, rfl, rfl, rfl, rfl⟩ rfl rfl rfl rfl rfl (by kernel_rfl) Tryd.func4 (by kernel_rfl)
    (of_decide_eq_true (by kernel_rfl)) (by unfold Func.isWrapper; first | (rw [if_pos (by decide +kernel)]; kernel_rfl) | (rw [if_neg (by decide +kernel)]; exact ⟨rfl, rfl⟩))
    (fun os started H enc _ => liftedA os started H enc)

theorem cardA : Rows.FnDiscoveryPathRoundTripCardSaid :=
  Claim7.holds_tied_plain_at .later [] [.data, .pinned] true Rows.fnDiscoveryPathRoundTripCard.stood.harness false
    holdsA (fun _ h => by cases h) (by kernel_rfl) (fun _ h => by cases h) fnDiscoveryPathRoundTrip_row_tie rfl ⟨rfl, rfl⟩ (by kernel_rfl) rfl
    (fun f fn hf hfn => by
      obtain rfl : f = 4 := Option.some.inj ((show Tryd.prog.funcNamed Rows.fnDiscoveryPathRoundTripRow.func = some 4 by kernel_rfl).symm.trans hf) |>.symm
      obtain rfl : fn = Tryd.f4 := (Option.some.inj (Tryd.func4.symm.trans hfn)).symm
      exact ⟨by kernel_rfl, fun j t ht => by
        rw [Tryd.params4] at ht
        have hm : t ∈ [3, 4, 9, 9] := by simpa using Array.mem_of_getElem? ht
        have hall : ([3, 4, 9, 9].all fun u => !Tryd.prog.wantsStandIn u) = true := by kernel_rfl
        exact (show Tryd.prog.wantsStandIn t = false by simpa using List.all_eq_true.1 hall t hm)⟩)
    (by kernel_rfl)
end Go.Proofs.Qxb6001591aDoor
