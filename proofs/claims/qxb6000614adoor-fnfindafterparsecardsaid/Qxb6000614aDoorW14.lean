/-
  WALKS of seat b6000614aD: zzParamsMatch at parameters that match.
-/
import Derived.Test.Qxb6000614aDoorW13
set_option linter.unusedVariables false
namespace Go.Proofs.Qxb6000614aDoor
open Go.RowKit Go.Lib

def lows (ns : List ByteArray) : List ByteArray := ns.map fun x => ⟨(toLowerA x.data.toList).toArray⟩
theorem lows_at (ns : List ByteArray) (i : Nat) (h : i < ns.length) : (lows ns).getD i ⟨#[]⟩ = ⟨(toLowerA ns[i].data.toList).toArray⟩ := by
  unfold lows
  rw [List.getD_eq_getElem?_getD, List.getElem?_map, List.getElem?_eq_getElem h]; rfl
theorem getD_at {α : Type} (l : List α) (d : α) (i : Nat) (h : i < l.length) : l.getD i d = l[i] := by
  rw [List.getD_eq_getElem?_getD, List.getElem?_eq_getElem h]; rfl
theorem lowN_at (ns : List ByteArray) (i : Nat) (h : i < ns.length) : ((lows ns).getD i ⟨#[]⟩).data.toList = lowN ns i := by
  rw [lows_at ns i h]; unfold lowN; rw [getD_at ns _ i h]
theorem low_size (ns : List ByteArray) (i : Nat) (h : i < ns.length) (hz : ∀ x ∈ ns, x.size ≤ 1048576) : ((lows ns).getD i ⟨#[]⟩).size ≤ maxLen := by
  have e : ((lows ns).getD i ⟨#[]⟩).size = ((lows ns).getD i ⟨#[]⟩).data.toList.length := by simp
  rw [e, lowN_at ns i h]
  unfold lowN toLowerA
  rw [List.length_map, getD_at ns _ i h]
  have := hz _ (List.getElem_mem h)
  unfold maxLen
  simp; omega
theorem run_makeMap49 (n : Nat) (w : World) : (Instr.makeMap 49 (some (.int .i64 n))).run Tryd.prog w = .ok (.map (some w.heap.size)) (w.alloc (.map #[] 0)) := by
  have hu : Tryd.prog.underlying 49 = some (.map 9 3) := Tryd.underlying49
  simp [Instr.makeMap, run_underlying hu, asInt, Result.andThen]
  rfl
theorem int_wf (i : Nat) (h : i ≤ 1048576) : (Lit.int .i64 i).wf = true := by
  have h1 : IntKind.i64.min = -9223372036854775808 := by decide
  have h2 : IntKind.i64.max = 9223372036854775807 := by decide
  show (decide (IntKind.i64.min ≤ (i : Int)) && decide ((i : Int) ≤ IntKind.i64.max)) = true
  rw [h1, h2, Bool.and_eq_true]
  exact ⟨decide_eq_true (by omega), decide_eq_true (by omega)⟩
/-- What zzParamsMatch has laid. -/
structure PM (w0 : World) (t : ByteArray) (m n i : Nat) (ls : List ByteArray) (w : World) : Prop where
  bel : Below w0.heap.size w0 w
  box : w.heap[w0.heap.size]? = some (.cells #[.string t, .map (some m)] 35 (0, 0))
  row : w.rowIs (w0.heap.size + 1) 9 n (strF ls i)
theorem PM.grew {w0 w w' : World} {t : ByteArray} {m n i : Nat} {ls : List ByteArray} (h : PM w0 t m n i ls w) (hg : w.grownBy w' none) : PM w0 t m n i ls w' := by
  have hb : w0.heap.size < w.heap.size := (Array.getElem?_eq_some_iff.1 h.box).1
  exact ⟨h.bel.grown hg (by omega) (by intro k e; cases e), (hg.block _ hb (by simp)).trans h.box, h.row.of_block (hg.block _ h.row.lt (by simp))⟩
theorem PM.mapped {w0 w w' : World} {t : ByteArray} {m n i b k : Nat} {ls : List ByteArray} {R : Value → Option (DataW Unit × List MemPlace)} {D : DataW Unit} {K : TypeId} (h : PM w0 t m n i ls w) (hm : w.ownsMap Tryd.prog K R b k D) (hB : w0.heap.size ≤ b) (hg : w.grownBy w' (some b)) : PM w0 t m n i ls w' := by
  have hb : w0.heap.size < w.heap.size := (Array.getElem?_eq_some_iff.1 h.box).1
  obtain ⟨es, cl, hes, _⟩ := hm
  refine ⟨h.bel.grown hg (by omega) (by intro k e; cases e; exact hB), (hg.block _ hb ?_).trans h.box, h.row.of_block (hg.block _ h.row.lt ?_)⟩
  · intro e; cases e; rw [h.box] at hes; cases hes
  · intro e; cases e
    obtain ⟨c, hc, _⟩ := h.row
    rw [hc] at hes; cases hes
theorem PM.stored {w0 w : World} {t : ByteArray} {m n i : Nat} {ls : List ByteArray} (h : PM w0 t m n i ls w) {x : ByteArray} (hx : x = ls.getD i ⟨#[]⟩) : PM w0 t m n (i + 1) ls (w.setCell ⟨w0.heap.size + 1, i, none⟩ (.string x)) :=
  ⟨h.bel.setCell (by simp) _, by rw [Below.heap_setCell _ _ _ _ (by simp)]; exact h.box, str_step h.row hx⟩
theorem PM.start {w0 : World} {t : ByteArray} {m n : Nat} {ls : List ByteArray} : PM w0 t m n 0 ls ((w0.alloc (.cells #[.string t, .map (some m)] 35)).alloc (.cells (madeCells #[.string ⟨#[]⟩] n) 9)) := by
  refine ⟨((Below.refl _ _).alloc (Nat.le_refl _) _).alloc (by simp) _, ?_, ?_⟩
  · rw [Below.heap_alloc _ _ _ (by simp)]; exact heap_alloc_new w0 _
  · have := str_start (w0.alloc (.cells #[.string t, .map (some m)] 35)) ls n
    simpa using this
theorem PM.c0 {w0 w : World} {t : ByteArray} {m n i : Nat} {ls : List ByteArray} (h : PM w0 t m n i ls w) : w.cell? ⟨w0.heap.size, 0, none⟩ = some (.string t) := by simp [World.cell?, h.box]
theorem PM.c1 {w0 w : World} {t : ByteArray} {m n i : Nat} {ls : List ByteArray} (h : PM w0 t m n i ls w) : w.cell? ⟨w0.heap.size, 1, none⟩ = some (.map (some m)) := by simp [World.cell?, h.box]
theorem PM.low {w0 w : World} {t : ByteArray} {m n j : Nat} {ls : List ByteArray} (h : PM w0 t m n n ls w) (hj : j < n) : w.cell? ⟨w0.heap.size + 1, j, none⟩ = some (.string (ls.getD j ⟨#[]⟩)) := by
  rw [h.row.cell hj]; unfold strF; rw [if_pos hj]

set_option maxHeartbeats 2000000 in
set_option maxRecDepth 100000 in
theorem match_any (t : ByteArray) (m q : Nat) (pn pv : Option Addr) (cn cv : Nat) (ns vs : List ByteArray) (w : World) (hnv : vs.length = ns.length) (hnn : ns.length ≤ 1048576) (hz : ∀ x ∈ ns, x.size ≤ 1048576)
    (hN : ViewS w pn ns) (hV : ViewS w pv vs) (hm : MapAt w m q (prs2 ns vs)) :
    Calls Tryd.prog 16 #[.agg #[.string t, .map (some m)], .slice pn ns.length cn, .slice pv vs.length cv] w fun e w' => e = .returned (.bool true) ∧ Below w.heap.size w w' := by
  obtain ⟨i0, hi, hz0, hz1, hz2⟩ := info_parts Tryd.info9
  have HN := hide hN
  have HV := hide hV
  have HM := hide hm
  have HZ := hide hz
  clear hN hV hm hz
  go_enter Tryd.func16, Tryd.ntmps16
  go_wp2_with (at_make; refine wpList_make_row _ rfl _ _ 22 rfl 9 i0 (.string ⟨#[]⟩) Tryd.underlying22 hi hz0 hz1 rfl _ _ ns.length rfl rfl (by rw [hz2]; omega) (by omega) ?_)
  go_loopw [8] (fun x wr => ∃ i : Nat, i ≤ ns.length ∧ x = .int .i64 i ∧ Hid (PM w t m ns.length i (lows ns) wr)) (fun x _ => ns.length - (RowKit.intOf x).toNat)
  case atStart => exact ⟨0, Nat.zero_le _, rfl, hide PM.start⟩
  case round =>
    obtain ⟨i, hin, rfl, HP⟩ := hrel
    by_cases hlt : i < ns.length
    · obtain ⟨b, o, rfl, hsc⟩ := (unhide HN).below (unhide HP).bel (by omega)
      have hsi := hsc i hlt
      clear hsc
      have HX := hide (lows_at ns i hlt).symm
      have HC := hide (lower_any ns[i] wr (by have := unhide HZ _ (List.getElem_mem hlt); omega))
      go_wp2_with fail
      refine (unhide HC).mono ?_
      rintro e w1 ⟨rfl, hb1⟩
      have HP1 := hide ((unhide HP).grew (below_none hb1))
      have hc1 := (unhide HP1).row.cell hlt
      have hf1 := (unhide HP1).row.frozen i
      clear hb1 HC
      go_wp2
      go_roundw
      case rel => exact ⟨i + 1, hlt, by go_num, hide ((unhide HP1).stored (unhide HX))⟩
      case measure => simp [RowKit.intOf]; omega
    · have e : i = ns.length := by omega
      subst e
      have hmm := run_makeMap49 ns.length wr
      have HB : Hid (w.heap.size ≤ wr.heap.size) := hide (unhide HP).bel.size
      have H0 : Hid (PM w t m ns.length ns.length (lows ns) (wr.alloc (.map #[] 0)) ∧ (wr.alloc (.map #[] 0)).ownsMap (H := Unit) Tryd.prog 9 (plainElem Tryd.prog 3) wr.heap.size 0 (lmap ns 0)) := hide ⟨(unhide HP).grew (World.grownBy_alloc wr _ none), World.ownsMap_made wr Tryd.prog 9 (plainElem Tryd.prog 3)⟩
      clear HP
      go_wp2
      generalize hGW : wr.heap.size = G at *
      clear hGW hmm
      go_loopw [10] (fun x wx => ∃ i : Nat, i ≤ ns.length ∧ x = .int .i64 i ∧ Hid (PM w t m ns.length ns.length (lows ns) wx ∧ wx.ownsMap (H := Unit) Tryd.prog 9 (plainElem Tryd.prog 3) G i (lmap ns i))) (fun x _ => ns.length - (RowKit.intOf x).toNat)
      case atStart => exact ⟨0, Nat.zero_le _, rfl, H0⟩
      case round =>
        clear H0
        obtain ⟨i, hin, rfl, HQ⟩ := hrel
        by_cases hlt : i < ns.length
        · have hsi := (unhide HQ).1.low hlt
          have HK := hide (lowN_at ns i hlt)
          have HS := hide (low_size ns i hlt (unhide HZ))
          generalize hG : (lows ns).getD i ⟨#[]⟩ = key at *
          clear hG
          obtain ⟨w1, hrun, hown1, hg1⟩ := World.ownsMap.update (unhide HQ).2 (Maps.string_keyed Tryd.underlying9) Tryd.underlying49 (by unfold maxLen; omega) (WideMaps.keyOf_string_mk Tryd.underlying9 (unhide HS)) (plainElem_int Tryd.underlying3 (int_wf i (by omega)))
          have HQ1 := hide (And.intro ((unhide HQ).1.mapped (unhide HQ).2 (unhide HB) hg1) (show w1.ownsMap (H := Unit) Tryd.prog 9 (plainElem Tryd.prog 3) _ (i + 1) (lmap ns (i + 1)) by rw [unhide HK] at hown1; exact hown1))
          clear hown1 hg1
          go_wp2
          go_roundw
          case rel => exact ⟨i + 1, hlt, by go_num, HQ1⟩
          case measure => simp [RowKit.intOf]; omega
        · have e : i = ns.length := by omega
          subst e
          have HA := hide (agree ns vs hnv ns.length (Nat.le_refl _))
          have HAE := hide (agree_all ns vs hnv)
          go_wp2
          go_loopw [11] (fun x wx => ∃ i : Nat, i ≤ ns.length ∧ x = .int .i64 i ∧ Hid (PM w t m ns.length ns.length (lows ns) wx ∧ wx.ownsMap (H := Unit) Tryd.prog 9 (plainElem Tryd.prog 3) G ns.length (lmap ns ns.length))) (fun x _ => ns.length - (RowKit.intOf x).toNat)
          case atStart => exact ⟨0, Nat.zero_le _, rfl, HQ⟩
          case round =>
            clear HQ
            obtain ⟨i, hin, rfl, HQ⟩ := hrel
            by_cases hlt : i < ns.length
            · have HK := hide (lowN_at ns i hlt)
              have HS := hide (low_size ns i hlt (unhide HZ))
              have HLow : Hid (∀ W, PM w t m ns.length ns.length (lows ns) W → W.cell? ⟨w.heap.size + 1, i, none⟩ = some (.string ((lows ns).getD i ⟨#[]⟩))) := hide fun W h => h.low hlt
              generalize hG : (lows ns).getD i ⟨#[]⟩ = key at HK HS HLow
              clear hG
              have hk1 := (unhide HA).keys i hlt
              obtain ⟨j, hj, hv1, hv2⟩ := (unhide HA).val _ hk1
              have HP1 := hide (show Maps.has (pmap (prs2 ns vs)) (.string (lowN ns i)) = true by rw [← unhide HAE, (unhide HA).has]; exact hk1)
              have HV1 := hide (show ∀ z, (pmap (prs2 ns vs)).atKey (.string (lowN ns i)) z = .lit (.string (vs.getD j ⟨#[]⟩).data.toList) by rw [← unhide HAE]; exact hv1)
              have HV2 := hide hv2
              clear hk1 hv1 hv2
              have hjv : j < vs.length := by omega
              obtain ⟨b, o, rfl, hsc⟩ := unhide HV (by omega)
              have hsj := hide (hsc j hjv)
              clear hsc
              have HQd := hide (show PM w t m ns.length ns.length (lows ns) wr.drew ∧ wr.drew.ownsMap (H := Unit) Tryd.prog 9 (plainElem Tryd.prog 3) G ns.length (lmap ns ns.length) from ⟨(unhide HQ).1.grew ⟨rfl, rfl, rfl, Nat.le_refl _, fun _ _ _ => rfl⟩, (unhide HQ).2⟩)
              have HMd := hide ((unhide HM).grew (unhide HQd).1.bel)
              go_wp2_with fail
              go_region_held3 (fun w' => w'.cell? ⟨w.heap.size, 0, none⟩ = some (.string t) ∧ w'.cell? ⟨w.heap.size, 1, none⟩ = some (.map (some m)) ∧ w'.cell? ⟨w.heap.size + 1, i, none⟩ = some (.string key)) (first | exact ⟨(unhide HQd).1.c0, (unhide HQd).1.c1, unhide HLow _ (unhide HQd).1⟩ | exact ⟨(unhide HQ2).1.c0, (unhide HQ2).1.c1, unhide HLow _ (unhide HQ2).1⟩) ((go_at_call 26; refine (param_any t key m q (prs2 ns vs) _ (unhide HS) (unhide HMd)).mono ?_; rintro e w2 ⟨hpe, hb2⟩; rw [unhide HK] at hpe; obtain ⟨tv, rfl, hat⟩ := hpe; have HQ2 := hide (show PM w t m ns.length ns.length (lows ns) w2 ∧ w2.ownsMap (H := Unit) Tryd.prog 9 (plainElem Tryd.prog 3) G ns.length (lmap ns ns.length) from ⟨(unhide HQd).1.grew (below_none hb2), World.ownsMap.kept (unhide HQd).2 (below_none hb2) (by simp)⟩)))
              have htv : tv = vs[j] := by
                have h := unhide HV1 (.lit (.string []))
                rw [hat] at h
                rw [getD_at vs _ j hjv] at h
                simp only [DataW.lit.injEq, Lit.string.injEq] at h
                exact WideShapes.bytes_inj h
              subst htv
              clear hat
              obtain ⟨c, hrun, hat2, hwc⟩ := World.ownsMap.lookup_int (unhide HQ2).2 (Maps.string_keyed Tryd.underlying9) Tryd.underlying49 Tryd.underlying3 (Tryd.zeroValue3 _) (WideMaps.keyOf_string_mk Tryd.underlying9 (unhide HS))
              have hcj : c = (j : Int) := by
                rw [unhide HK, unhide HV2] at hat2
                simp only [DataW.lit.injEq, Lit.int.injEq] at hat2
                exact hat2.2.symm
              subst hcj
              clear hat2 hwc
              have hci := unhide HLow _ (unhide HQ2).1
              have hvj := ((unhide HQ2).1.bel.cell (p := ⟨b, o + j, none⟩) (World.block_lt_of_cell? w _ (unhide hsj))).trans (unhide hsj)
              have hp1 := unhide HP1
              have HQ3 := hide (unhide HQ2)
              clear hb2
              go_wp2
              go_roundw
              case rel => exact ⟨i + 1, hlt, by go_num, HQ3⟩
              case measure => simp [RowKit.intOf]; omega
            · have HMd := hide ((unhide HM).grew (unhide HQ).1.bel)
              have hc0 := (unhide HQ).1.c0
              have hc1 := (unhide HQ).1.c1
              have HSE := hide (show Maps.size (pmap (prs2 ns vs)) = Maps.size (lmap ns ns.length) by rw [← unhide HAE]; exact (unhide HA).size)
              go_wp2_with fail
              refine (count_any t m q (prs2 ns vs) wr (unhide HMd)).mono ?_
              rintro e w2 ⟨rfl, hb2⟩
              have HQ2 := hide (show PM w t m ns.length ns.length (lows ns) w2 ∧ w2.ownsMap (H := Unit) Tryd.prog 9 (plainElem Tryd.prog 3) G ns.length (lmap ns ns.length) from ⟨(unhide HQ).1.grew (below_none hb2), World.ownsMap.kept (unhide HQ).2 (below_none hb2) (by simp)⟩)
              have hln := (unhide HQ2).2.len Tryd.underlying49 3
              clear hb2
              go_wp2
              go_ret
              refine ⟨?_, (unhide HQ2).1.bel⟩
              rw [unhide HSE]
              simp
end Go.Proofs.Qxb6000614aDoor
