/-
  WALKS of seat b6000905aD: appendQuoted.
-/
import Derived.Test.Qxb6000905aDoorW10
set_option linter.unusedVariables false
namespace Go.Proofs.Qxb6000905aDoor
open Go.RowKit Go.Lib

set_option maxHeartbeats 1000000 in
set_option maxRecDepth 100000 in
/-- appendQuoted. -/
theorem quoted_any (B : Nat) (v : Value) (bs : List UInt8) (x : ByteArray) (w : World) (hlen : bs.length + 2 * x.size + 2 ≤ 1099511627776) (hB : B ≤ w.heap.size) (hown : Own B w v bs) :
    Calls Tryd.prog 22 #[v, .string x] w fun e w' => ∃ v', e = .returned v' ∧ Own B w' v' (bs ++ quoted x.data.toList) ∧ Kp B w w' := by
  have HO := hide hown
  clear hown
  go_enter Tryd.func22, Tryd.ntmps22
  go_wp2_with (at_builtin; refine app_cells rfl _ _ rfl B _ bs rfl ((unhide HO).alloc _) ⟨w.heap.size, 0, none⟩ [34] 1 rfl (lit_cells _ _ _ rfl) (by simp; omega) (size_up' hB _) ?_)
  intro va wa hoa hba
  have HOa := hide hoa
  have HBa := hide (below_al (Kp.refl B w) hB hba)
  clear hoa hba HO
  go_wp2
  go_loopw [0, 5] (fun u k wr => ∃ (i : Nat) (g : List UInt8), i ≤ x.size ∧ k = .int .i64 i ∧ g.length ≤ 2 * i ∧ Hid (Own B wr u (bs ++ [34] ++ g)) ∧ Hid (Kp B w wr) ∧ Hid (esc x.data.toList = g ++ esc (sfx x i))) (fun _ k _ => x.size - (RowKit.intOf k).toNat)
  case atStart => exact ⟨0, [], Nat.zero_le _, rfl, Nat.le_refl _, hide (by simpa using unhide HOa), HBa, hide (by simp [sfx])⟩
  case round =>
    clear HOa HBa
    obtain ⟨i, g, hi, rfl, hg, HO, HB, HE⟩ := hrel
    have hwr : B ≤ wr.heap.size := Nat.le_trans hB (unhide HB).size
    by_cases hlt : i < x.size
    · by_cases hs : x[i] = 34 ∨ x[i] = 92
      · have HE2 := hide (show esc x.data.toList = (g ++ [92, x[i]]) ++ esc (sfx x (i + 1)) by
          rw [unhide HE, sfx_cons x i hlt]; simp [esc, if_pos hs])
        rcases hs with hs | hs
        · have hq : ((x[i].toNat : Int) == 34) = true := by rw [hs]; rfl
          clear hs
          go_wp2_with (at_builtin; refine app_cells rfl _ _ rfl B _ (bs ++ [34] ++ g) rfl ((unhide HO).alloc _) ⟨wr.heap.size, 0, none⟩ [92] 1 rfl (lit_cells _ _ _ rfl) (by simp; omega) (size_up' hwr _) ?_)
          intro v1 w1 ho1 hb1
          have HO1 := hide ho1
          have HB1 := hide (below_al (unhide HB) hwr hb1)
          have hw1 : B ≤ w1.heap.size := Nat.le_trans hB (unhide HB1).size
          clear ho1 hb1
          go_wp2_with (at_builtin; refine app_cells rfl _ _ rfl B _ _ rfl ((unhide HO1).alloc _) ⟨w1.heap.size, 0, none⟩ [x[i]] 1 rfl (lit_cells _ _ _ rfl) (by simp; omega) (size_up' hw1 _) ?_)
          intro v2 w2 ho2 hb2
          have HO2 := hide ho2
          have HB2 := hide (below_al (unhide HB1) hw1 hb2)
          clear ho2 hb2
          go_wp2
          go_roundw
          case rel => exact ⟨i + 1, g ++ [92, x[i]], hlt, by go_num, by simp; omega, hide (by simpa using unhide HO2), HB2, HE2⟩
          case measure => simp [RowKit.intOf]; omega
        · have hq : ((x[i].toNat : Int) == 34) = false := by rw [hs]; rfl
          have hq2 : ((x[i].toNat : Int) == 92) = true := by rw [hs]; rfl
          clear hs
          go_wp2_with (at_builtin; refine app_cells rfl _ _ rfl B _ (bs ++ [34] ++ g) rfl ((unhide HO).alloc _) ⟨wr.heap.size, 0, none⟩ [92] 1 rfl (lit_cells _ _ _ rfl) (by simp; omega) (size_up' hwr _) ?_)
          intro v1 w1 ho1 hb1
          have HO1 := hide ho1
          have HB1 := hide (below_al (unhide HB) hwr hb1)
          have hw1 : B ≤ w1.heap.size := Nat.le_trans hB (unhide HB1).size
          clear ho1 hb1
          go_wp2_with (at_builtin; refine app_cells rfl _ _ rfl B _ _ rfl ((unhide HO1).alloc _) ⟨w1.heap.size, 0, none⟩ [x[i]] 1 rfl (lit_cells _ _ _ rfl) (by simp; omega) (size_up' hw1 _) ?_)
          intro v2 w2 ho2 hb2
          have HO2 := hide ho2
          have HB2 := hide (below_al (unhide HB1) hw1 hb2)
          clear ho2 hb2
          go_wp2
          go_roundw
          case rel => exact ⟨i + 1, g ++ [92, x[i]], hlt, by go_num, by simp; omega, hide (by simpa using unhide HO2), HB2, HE2⟩
          case measure => simp [RowKit.intOf]; omega
      · have HE2 := hide (show esc x.data.toList = (g ++ [x[i]]) ++ esc (sfx x (i + 1)) by
          rw [unhide HE, sfx_cons x i hlt]; simp [esc, if_neg hs])
        have hq : ((x[i].toNat : Int) == 34) = false := beqf (fun h => hs (.inl (UInt8.toNat_inj.1 (Int.ofNat.inj h))))
        have hq2 : ((x[i].toNat : Int) == 92) = false := beqf (fun h => hs (.inr (UInt8.toNat_inj.1 (Int.ofNat.inj h))))
        clear hs
        go_wp2_with (at_builtin; refine app_cells rfl _ _ rfl B _ (bs ++ [34] ++ g) rfl ((unhide HO).alloc _) ⟨wr.heap.size, 0, none⟩ [x[i]] 1 rfl (lit_cells _ _ _ rfl) (by simp; omega) (size_up' hwr _) ?_)
        intro v2 w2 ho2 hb2
        have HO2 := hide ho2
        have HB2 := hide (below_al (unhide HB) hwr hb2)
        clear ho2 hb2
        go_wp2
        go_roundw
        case rel => exact ⟨i + 1, g ++ [x[i]], hlt, by go_num, by simp; omega, hide (by simpa using unhide HO2), HB2, HE2⟩
        case measure => simp [RowKit.intOf]; omega
    · go_wp2_with (at_builtin; refine app_cells rfl _ _ rfl B _ (bs ++ [34] ++ g) rfl ((unhide HO).alloc _) ⟨wr.heap.size, 0, none⟩ [34] 1 rfl (lit_cells _ _ _ rfl) (by simp; omega) (size_up' hwr _) ?_)
      intro v2 w2 ho2 hb2
      have HO2 := hide ho2
      have HB2 := hide (below_al (unhide HB) hwr hb2)
      clear ho2 hb2
      go_wp2
      go_ret
      refine ⟨_, rfl, ?_, unhide HB2⟩
      have e := unhide HE
      rw [sfx_end x i (by omega)] at e
      simp only [esc, List.append_nil] at e
      unfold quoted
      rw [e]
      have := unhide HO2
      simpa using this
end Go.Proofs.Qxb6000905aDoor
