/-
  WALKS of seat b6000614aD: zzAppendChallenge.
-/
import Derived.Test.Qxb6000614aDoorW10
set_option linter.unusedVariables false
namespace Go.Proofs.Qxb6000614aDoor
open Go.RowKit Go.Lib

def prms (names vals : List ByteArray) : List (List UInt8 × List UInt8 × List UInt8) := (names.zip vals).map fun x => (x.1.data.toList, x.2.data.toList, quoted x.2.data.toList)
theorem prms_drop (names vals : List ByteArray) (i : Nat) (h1 : i < names.length) (h2 : i < vals.length) : (prms names vals).drop i = (names[i].data.toList, vals[i].data.toList, quoted vals[i].data.toList) :: (prms names vals).drop (i + 1) := by
  unfold prms
  have hl : i < ((names.zip vals).map fun x => (x.1.data.toList, x.2.data.toList, quoted x.2.data.toList)).length := by simp; omega
  rw [List.drop_eq_getElem_cons hl]
  simp
theorem prms_end (names vals : List ByteArray) (i : Nat) (h : names.length ≤ i) : (prms names vals).drop i = [] := by
  refine List.drop_eq_nil_of_le ?_
  unfold prms; simp; omega
theorem rps_true (n v q : List UInt8) (r : List (List UInt8 × List UInt8 × List UInt8)) : rps true ((n, v, q) :: r) = [32] ++ (n ++ (61 :: (q ++ rps false r))) := rfl
theorem rps_false (n v q : List UInt8) (r : List (List UInt8 × List UInt8 × List UInt8)) : rps false ((n, v, q) :: r) = [44, 32] ++ (n ++ (61 :: (q ++ rps false r))) := rfl
/-- What one parameter adds. -/
def one (first : Bool) (n v : List UInt8) : List UInt8 := (if first then [32] else [44, 32]) ++ n ++ [61, 34] ++ esc v ++ [34]
theorem rps_one (first : Bool) (n v : List UInt8) (r : List (List UInt8 × List UInt8 × List UInt8)) : rps first ((n, v, quoted v) :: r) = one first n v ++ rps false r := by
  cases first <;> simp [rps, one, quoted]
theorem esc_len : ∀ l : List UInt8, l.length ≤ (esc l).length
  | [] => Nat.le_refl _
  | c :: r => by
    have := esc_len r
    unfold esc
    rw [List.length_append, List.length_cons]
    split <;> simp <;> omega
theorem esc_le : ∀ l : List UInt8, (esc l).length ≤ 2 * l.length
  | [] => Nat.le_refl _
  | c :: r => by
    have := esc_le r
    unfold esc
    rw [List.length_append, List.length_cons]
    split <;> simp <;> omega
theorem one_len (first : Bool) (n v : List UInt8) : (one first n v).length = (if first then 1 else 2) + n.length + 2 + (esc v).length + 1 := by
  cases first <;> simp [one] <;> omega
theorem size_list (t : ByteArray) : t.data.toList.length = t.size := by simp

set_option maxHeartbeats 2000000 in
set_option maxRecDepth 100000 in
/-- zzAppendChallenge. -/
theorem chal_any (B : Nat) (v : Value) (bs : List UInt8) (sc : ByteArray) (pn pv : Option Addr) (cn cv : Nat) (names vals : List ByteArray) (w : World) (hnv : vals.length = names.length) (hnn : names.length ≤ 1048576)
    (hsz : ∀ t ∈ vals, t.size ≤ 1048576) (hlen : bs.length + sc.size + (rps true (prms names vals)).length ≤ 1000000000000) (hB : B ≤ w.heap.size) (hown : Own B w v bs) (hN : ViewS w pn names) (hV : ViewS w pv vals) (hlN : ∀ b o, pn = some ⟨b, o, none⟩ → 0 < names.length → b < B) (hlV : ∀ b o, pv = some ⟨b, o, none⟩ → 0 < vals.length → b < B) :
    Calls Tryd.prog 12 #[v, .string sc, .slice pn names.length cn, .slice pv vals.length cv] w fun e w' => ∃ v', e = .returned v' ∧ Own B w' v' (bs ++ (sc.data.toList ++ rps true (prms names vals))) ∧ Below B w w' := by
  have HO := hide hown
  have HN := hide hN
  have HV := hide hV
  have HLN := hide hlN
  have HLV := hide hlV
  have HSZ := hide hsz
  clear hown hN hV hlN hlV hsz
  go_enter Tryd.func12, Tryd.ntmps12
  go_wp2_with (at_builtin; refine app_str rfl _ _ rfl B _ bs rfl (unhide HO) sc rfl (by omega) hB ?_)
  intro v0 w0 ho0 hb0
  have HO0 := hide ho0
  have HB0 := hide hb0
  clear ho0 hb0 HO
  go_wp2
  go_loopw [0, 9] (fun u k wr => ∃ (i : Nat) (g : List UInt8), i ≤ names.length ∧ k = .int .i64 i ∧ Hid (Own B wr u (bs ++ sc.data.toList ++ g)) ∧ Hid (Below B w wr) ∧ Hid (rps true (prms names vals) = g ++ rps (decide (i = 0)) ((prms names vals).drop i))) (fun _ k _ => names.length - (RowKit.intOf k).toNat)
  case atStart => exact ⟨0, [], Nat.zero_le _, rfl, hide (by simpa using unhide HO0), HB0, hide rfl⟩
  case round =>
    clear HO0 HB0
    obtain ⟨i, g, hi, rfl, HO, HB, HE⟩ := hrel
    have hwr : B ≤ wr.heap.size := Nat.le_trans hB (unhide HB).size
    by_cases hlt : i < names.length
    · have hlt2 : i < vals.length := by omega
      have HE2 := hide (show rps true (prms names vals) = (g ++ one (decide (i = 0)) names[i].data.toList vals[i].data.toList) ++ rps (decide (i + 1 = 0)) ((prms names vals).drop (i + 1)) by
        rw [unhide HE, prms_drop names vals i hlt hlt2, rps_one, List.append_assoc]; simp)
      have HT : Hid (bs.length + sc.size + (g.length + (one (decide (i = 0)) names[i].data.toList vals[i].data.toList).length) ≤ 1000000000000) := by
        have := congrArg List.length (unhide HE2)
        rw [List.length_append, List.length_append] at this
        exact hide (by omega)
      have HT2 : Hid (bs.length + sc.size + g.length + (if decide (i = 0) then 1 else 2) + names[i].size + 2 + (esc vals[i].data.toList).length + 1 ≤ 1000000000000) := by
        have := unhide HT
        rw [one_len, size_list] at this
        exact hide (by omega)
      have HEL := hide (esc_le vals[i].data.toList)
      have HSZi := hide (unhide HSZ _ (List.getElem_mem hlt2))
      obtain ⟨bn, on, rfl, hcn⟩ := unhide HN (by omega)
      obtain ⟨bv, ov, rfl, hcv⟩ := unhide HV (by omega)
      have hbn := unhide HLN bn on rfl (by omega)
      have hbv := unhide HLV bv ov rfl (by omega)
      have HCN : Hid (∀ W, Below B w W → W.cell? ⟨bn, on + i, none⟩ = some (.string names[i])) := hide fun W h => (h.cell (p := ⟨bn, on + i, none⟩) hbn).trans (hcn i hlt)
      have HCV : Hid (∀ W, Below B w W → W.cell? ⟨bv, ov + i, none⟩ = some (.string vals[i])) := hide fun W h => (h.cell (p := ⟨bv, ov + i, none⟩) hbv).trans (hcv i hlt2)
      clear hcn hcv
      generalize hNI : names[i] = ni at *
      generalize hVI : vals[i] = vi at *
      clear hNI hVI
      by_cases hi0 : i = 0
      · have hib : ((i : Int) == 0) = true := by rw [hi0]; rfl
        have hdf : decide (i = 0) = true := by simp; omega
        clear hi0
        rw [hdf] at HE2 HT2
        have HT3 := hide (show bs.length + sc.size + g.length + 1 + ni.size + 2 + (esc vi.data.toList).length + 1 ≤ 1000000000000 from unhide HT2)
        clear HT HT2 hdf
        go_wp2_with (at_builtin; refine app_cells rfl _ _ rfl B _ (bs ++ sc.data.toList ++ g) rfl ((unhide HO).alloc _) ⟨wr.heap.size, 0, none⟩ [32] 1 rfl (lit_cells _ _ _ rfl) (by have := unhide HT3; simp; omega) (size_up' hwr _) ?_)
        intro v1 w1 ho1 hb1
        have HO1 := hide ho1
        have HB1 := hide (below_al (unhide HB) hwr hb1)
        have hw1 : B ≤ w1.heap.size := Nat.le_trans hB (unhide HB1).size
        clear ho1 hb1
        have hc1 := unhide HCN _ (unhide HB1)
        go_wp2_with (at_builtin; refine app_str rfl _ _ rfl B _ _ rfl (unhide HO1) ni rfl (by have := unhide HT3; simp; omega) hw1 ?_)
        clear hc1
        intro v2 w2 ho2 hb2
        have HO2 := hide ho2
        have HB2 := hide ((unhide HB1).trans hb2)
        have hw2 : B ≤ w2.heap.size := Nat.le_trans hB (unhide HB2).size
        clear ho2 hb2
        go_wp2_with (at_builtin; refine app_cells rfl _ _ rfl B _ _ rfl ((unhide HO2).alloc _) ⟨w2.heap.size, 0, none⟩ [61, 34] 2 rfl (lit_cells _ _ _ rfl) (by have := unhide HT3; simp; omega) (size_up' hw2 _) ?_)
        intro v3 w3 ho3 hb3
        have HO3 := hide ho3
        have HB3 := hide (below_al (unhide HB2) hw2 hb3)
        have hw3 : B ≤ w3.heap.size := Nat.le_trans hB (unhide HB3).size
        clear ho3 hb3
        have hc3 := unhide HCV _ (unhide HB3)
        go_wp2_with fail
        clear hc3
        refine (escaped_any B _ _ vi w3 (by have := unhide HT3; have := unhide HEL; have := unhide HSZi; have := esc_len vi.data.toList; rw [size_list] at this; simp; omega) hw3 (unhide HO3)).mono ?_
        rintro e w4 ⟨v4, rfl, ho4, hb4⟩
        have HO4 := hide ho4
        have HB4 := hide ((unhide HB3).trans hb4)
        have hw4 : B ≤ w4.heap.size := Nat.le_trans hB (unhide HB4).size
        clear ho4 hb4
        go_wp2_with (at_builtin; refine app_cells rfl _ _ rfl B _ _ rfl ((unhide HO4).alloc _) ⟨w4.heap.size, 0, none⟩ [34] 1 rfl (lit_cells _ _ _ rfl) (by have := unhide HT3; simp; omega) (size_up' hw4 _) ?_)
        intro v5 w5 ho5 hb5
        have HO5 := hide ho5
        have HB5 := hide (below_al (unhide HB4) hw4 hb5)
        clear ho5 hb5
        go_wp2
        go_roundw
        case rel => exact ⟨i + 1, g ++ one true ni.data.toList vi.data.toList, hlt, by go_num, hide (by have := unhide HO5; simpa [one] using this), HB5, HE2⟩
        case measure => simp [RowKit.intOf]; omega
      · have hib : ((i : Int) == 0) = false := beqf (by omega)
        have hdf : decide (i = 0) = false := by simp; omega
        clear hi0
        rw [hdf] at HE2 HT2
        have HT3 := hide (show bs.length + sc.size + g.length + 2 + ni.size + 2 + (esc vi.data.toList).length + 1 ≤ 1000000000000 from unhide HT2)
        clear HT HT2 hdf
        go_wp2_with (at_builtin; refine app_cells rfl _ _ rfl B _ (bs ++ sc.data.toList ++ g) rfl ((unhide HO).alloc _) ⟨wr.heap.size, 0, none⟩ [44, 32] 2 rfl (lit_cells _ _ _ rfl) (by have := unhide HT3; simp; omega) (size_up' hwr _) ?_)
        intro v1 w1 ho1 hb1
        have HO1 := hide ho1
        have HB1 := hide (below_al (unhide HB) hwr hb1)
        have hw1 : B ≤ w1.heap.size := Nat.le_trans hB (unhide HB1).size
        clear ho1 hb1
        have hc1 := unhide HCN _ (unhide HB1)
        go_wp2_with (at_builtin; refine app_str rfl _ _ rfl B _ _ rfl (unhide HO1) ni rfl (by have := unhide HT3; simp; omega) hw1 ?_)
        clear hc1
        intro v2 w2 ho2 hb2
        have HO2 := hide ho2
        have HB2 := hide ((unhide HB1).trans hb2)
        have hw2 : B ≤ w2.heap.size := Nat.le_trans hB (unhide HB2).size
        clear ho2 hb2
        go_wp2_with (at_builtin; refine app_cells rfl _ _ rfl B _ _ rfl ((unhide HO2).alloc _) ⟨w2.heap.size, 0, none⟩ [61, 34] 2 rfl (lit_cells _ _ _ rfl) (by have := unhide HT3; simp; omega) (size_up' hw2 _) ?_)
        intro v3 w3 ho3 hb3
        have HO3 := hide ho3
        have HB3 := hide (below_al (unhide HB2) hw2 hb3)
        have hw3 : B ≤ w3.heap.size := Nat.le_trans hB (unhide HB3).size
        clear ho3 hb3
        have hc3 := unhide HCV _ (unhide HB3)
        go_wp2_with fail
        clear hc3
        refine (escaped_any B _ _ vi w3 (by have := unhide HT3; have := unhide HEL; have := unhide HSZi; have := esc_len vi.data.toList; rw [size_list] at this; simp; omega) hw3 (unhide HO3)).mono ?_
        rintro e w4 ⟨v4, rfl, ho4, hb4⟩
        have HO4 := hide ho4
        have HB4 := hide ((unhide HB3).trans hb4)
        have hw4 : B ≤ w4.heap.size := Nat.le_trans hB (unhide HB4).size
        clear ho4 hb4
        go_wp2_with (at_builtin; refine app_cells rfl _ _ rfl B _ _ rfl ((unhide HO4).alloc _) ⟨w4.heap.size, 0, none⟩ [34] 1 rfl (lit_cells _ _ _ rfl) (by have := unhide HT3; simp; omega) (size_up' hw4 _) ?_)
        intro v5 w5 ho5 hb5
        have HO5 := hide ho5
        have HB5 := hide (below_al (unhide HB4) hw4 hb5)
        clear ho5 hb5
        go_wp2
        go_roundw
        case rel => exact ⟨i + 1, g ++ one false ni.data.toList vi.data.toList, hlt, by go_num, hide (by have := unhide HO5; simpa [one] using this), HB5, HE2⟩
        case measure => simp [RowKit.intOf]; omega
    · go_wp2
      go_ret
      refine ⟨_, rfl, ?_, unhide HB⟩
      have e := unhide HE
      rw [prms_end names vals i (by omega)] at e
      have e0 : ∀ f, rps f [] = [] := by intro f; rfl
      rw [e0, List.append_nil] at e
      rw [e, ← List.append_assoc]; exact unhide HO
end Go.Proofs.Qxb6000614aDoor
