/-
  WALKS of seat b6000905aD: parseChallenges along rendered headers.
-/
import Derived.Test.Qxb6000905aDoorW6
set_option linter.unusedVariables false
namespace Go.Proofs.Qxb6000905aDoor
open Go.RowKit Go.Lib

def pch (c : RC) : Ch := (c.1, vals c.2)
/-- A slice of strings. -/
def ViewS (w : World) (p : Option Addr) (ss : List ByteArray) : Prop := 0 < ss.length → ∃ b o, p = some ⟨b, o, none⟩ ∧ ∀ (j : Nat) (h : j < ss.length), w.cell? ⟨b, o + j, none⟩ = some (.string ss[j])
theorem ViewS.below {w w' : World} {p : Option Addr} {ss : List ByteArray} (h : ViewS w p ss) (hb : Below w.heap.size w w') : ViewS w' p ss := by
  intro hl
  obtain ⟨b, o, rfl, hc⟩ := h hl
  exact ⟨b, o, rfl, fun j hj => (hb.cell (p := ⟨b, o + j, none⟩) (World.block_lt_of_cell? w _ (hc j hj))).trans (hc j hj)⟩
theorem Tryd.info49 : (Tryd.prog.info? 49).map (fun i => (i.zero, i.size, i.bytes)) = some (some (.agg #[.string ⟨#[]⟩, .map none]), 2, 24) := by kernel_rfl
theorem St.start (w : World) : St w w.heap.size 0 w (.slice none 0 0) [] := ⟨⟨[], World.ownsRow_nil _ _ _ _, rfl⟩, Below.refl _ _, Nat.le_refl _, Nat.zero_le _⟩
theorem bstr_empty (l : List UInt8) : (bstr l).toList.isEmpty = l.isEmpty := by rw [ByteArray.toList_eq]; rfl

theorem row_bounds {n : Nat} (h : n ≤ 1099511627776) : n + 1 ≤ maxLen ∧ (n + 1) * 24 ≤ 140737488355328 := by unfold maxLen; omega
theorem two_cells (tl : ByteArray) (m : Nat) : ∀ u : Value, u ∈ [Value.string tl, Value.map (some m)] → u.oneCell' = true := by
  intro u hu
  simp only [List.mem_cons, List.not_mem_nil, or_false] at hu
  rcases hu with rfl | rfl <;> rfl
theorem size_up {B : Nat} {w : World} (h : B ≤ w.heap.size) (o : Obj) : B ≤ (w.alloc o).heap.size := by simp; omega
theorem esc_len : ∀ l : List UInt8, l.length ≤ (esc l).length
  | [] => Nat.le_refl _
  | c :: r => by
    have := esc_len r
    unfold esc
    rw [List.length_append, List.length_cons]
    split <;> simp <;> omega
theorem slice_one (c : UInt8) (r : List UInt8) (W : World) : (Instr.slice 9 (.string (bstr (c :: r))) (some (.int .i64 1)) none none).run Tryd.prog W = .ok (.string (bstr r)) W := by
  have e := run_slice_string_l (P := Tryd.prog) W 9 (bstr (c :: r)) Tryd.underlying9 .i64 1 (by omega) (by rw [bstr_size]; simp; omega)
  rw [e]
  have h := ext_from (bstr (c :: r)) 1
  show Result.ok (Value.string ((bstr (c :: r)).extract 1 (bstr (c :: r)).size)) W = _
  rw [h]
  rfl
theorem rps_count_f : ∀ (ps : List RP) (f : Bool), ps.length ≤ (rps f ps).length
  | [], f => Nat.zero_le _
  | (n, v, rv) :: r, f => by
    have := rps_count_f r false
    cases f <;> simp [rps] <;> omega
theorem rps_count (ps : List RP) (rest : List RC) : ps.length ≤ (rps true ps ++ tailT rest).length := by
  have := rps_count_f ps true
  rw [List.length_append]; omega
theorem done_le {Css : List (List RC)} {i k : Nat} {cs : List RC} (hlt : i < Css.length) (hcs : Css[i] = cs) (hk : k ≤ cs.length) (hm : Css.flatten.length ≤ 1048576) : ((Css.take i).flatten.map pch ++ (cs.take k).map pch).length ≤ 1099511627776 := by
  have h1 : (Css.take (i + 1)).flatten.length ≤ Css.flatten.length := by
    have := List.take_append_drop (i + 1) Css
    have h2 := congrArg (fun x => x.flatten.length) this
    simp only [List.flatten_append, List.length_append] at h2
    omega
  rw [List.take_succ_eq_append_getElem hlt, hcs, List.flatten_append, List.length_append] at h1
  have h3 : ([cs] : List (List RC)).flatten.length = cs.length := by simp
  rw [h3] at h1
  rw [List.length_append, List.length_map, List.length_map, List.length_take]
  omega
set_option maxHeartbeats 2000000 in
set_option maxRecDepth 100000 in
theorem parse_vals (p : Option Addr) (cap : Nat) (Css : List (List RC)) (w : World) (hn : Css.length ≤ 1048576) (hG : ∀ cs ∈ Css, GoodCQ cs) (hz : ∀ cs ∈ Css, (hdr cs).length ≤ 1000000000) (hm : Css.flatten.length ≤ 1048576) (hV : ViewS w p (Css.map fun cs => bstr (hdr cs))) :
    Calls Tryd.prog 20 #[.slice p Css.length cap] w fun e w' => ∃ v xs M, e = .returned v ∧ w'.ownsRow w.heap.size 49 2 v (Css.flatten.map pch).length xs ∧ Chs w' M (Css.flatten.map pch) xs ∧ Below w.heap.size w w' := by
  obtain ⟨i0, hi, hz0, hz1, hz2⟩ := info_parts Tryd.info49
  have HV := hide hV
  have HG := hide hG
  have HZ := hide hz
  clear hV hG hz
  go_enter Tryd.func20, Tryd.ntmps20
  go_wp2
  go_loopw [3, 14] (fun u k wr => ∃ i : Nat, i ≤ Css.length ∧ k = .int .i64 i ∧ Hid (∃ M, St w w.heap.size M wr u ((Css.take i).flatten.map pch))) (fun _ k _ => Css.length - (RowKit.intOf k).toNat)
  case atStart => exact ⟨0, Nat.zero_le _, rfl, hide ⟨0, St.start w⟩⟩
  case round =>
    obtain ⟨i, hin, rfl, HS⟩ := hrel
    by_cases hlt : i < Css.length
    · obtain ⟨M0, hst⟩ := unhide HS
      obtain ⟨b, o, rfl, hc⟩ := (unhide HV).below hst.bel (by simpa using (by omega : 0 < Css.length))
      have hci := hc i (by simpa using hlt)
      simp only [List.getElem_map] at hci
      have HGi := hide (unhide HG _ (List.getElem_mem hlt))
      have HZi := hide (unhide HZ _ (List.getElem_mem hlt))
      have H0 : Hid (∃ (k : Nat) (l : List UInt8) (M : Nat), k ≤ Css[i].length ∧ Value.string (bstr (hdr Css[i])) = .string (bstr l) ∧ l.length ≤ 1000000000 ∧ l.dropWhile isSep = hdr (Css[i].drop k) ∧ St w w.heap.size M wr u3 ((Css.take i).flatten.map pch ++ (Css[i].take k).map pch)) :=
        hide ⟨0, hdr Css[i], M0, Nat.zero_le _, rfl, unhide HZi, by rw [hdr_sep _ (unhide HGi)]; rfl, by simpa using hst⟩
      clear hc hst HS
      generalize hcs : Css[i] = cs at *
      go_wp2
      clear hci
      go_loopw [3, 5] (fun u sv wx => Hid (∃ (k : Nat) (l : List UInt8) (M : Nat), k ≤ cs.length ∧ sv = .string (bstr l) ∧ l.length ≤ 1000000000 ∧ l.dropWhile isSep = hdr (cs.drop k) ∧ St w w.heap.size M wx u ((Css.take i).flatten.map pch ++ (cs.take k).map pch))) (fun _ sv _ => strLen sv)
      case atStart => exact H0
      case round =>
        clear H0
        obtain ⟨k, l, M, hk, rfl, hl, hsep, hst⟩ := unhide hrel
        have HST := hide hst
        have HSEP := hide hsep
        clear hrel hst hsep
        go_wp2_with fail
        refine (trim_sep l _ wr (unhide HSEP) (by omega)).mono ?_
        rintro e w1 ⟨rfl, b1⟩
        have HS1 := hide ((unhide HST).grew (below_none b1))
        clear b1
        by_cases hkl : k < cs.length
        · have HDL := hide (done_le hlt hcs (by omega : k ≤ cs.length) hm)
          generalize hdn : (Css.take i).flatten.map pch ++ (cs.take k).map pch = dn at HDL HST HS1
          have HDN := hide hdn
          clear hdn
          have e0 : cs.drop k = cs[k] :: cs.drop (k + 1) := List.drop_eq_getElem_cons hkl
          have HGc := hide (unhide HGi _ (List.getElem_mem hkl))
          have HGr : Hid (GoodCQ (cs.drop (k + 1))) := hide (fun c hc => unhide HGi c (List.mem_of_mem_drop hc))
          have HTK : Hid (cs.take (k + 1) = cs.take k ++ [cs[k]]) := hide (List.take_succ_eq_append_getElem hkl)
          generalize hck : cs[k] = c at *
          generalize hrs : cs.drop (k + 1) = rest at *
          have HH := hide (show hdr (cs.drop k) = c.1 ++ (rps true c.2 ++ tailT rest) by rw [e0, hdr_cons])
          have HLL := hide (show c.1.length + (rps true c.2 ++ tailT rest).length ≤ l.length by
            have h := dropWhile_le isSep l
            rw [unhide HSEP, unhide HH, List.length_append] at h
            exact h)
          have HTKp : Hid (0 < c.1.length) := hide (List.length_pos_iff.2 (unhide HGc).1.1)
          have HU := hide (rps_stop c.2 rest)
          have H3 := hide (at3_start c.2 rest)
          generalize hUU : rps true c.2 ++ tailT rest = U at *
          rw [unhide HH]
          have hHne : Hid (c.1 ≠ []) := hide (unhide HGc).1.1
          have C2 := hide (cut_tok (c.1 ++ U) c.1 U w1 rfl (unhide HGc).1.2 (unhide HU) (by have := unhide HLL; rw [List.length_append]; omega))
          generalize c.1 ++ U = X1 at *
          have HUE := hide hUU
          have HRS := hide hrs
          clear hck hrs e0 hUU
          go_wp2_with fail
          refine (unhide C2).mono ?_
          rintro e w2 ⟨rfl, b2⟩
          have HS2 := hide ((unhide HS1).grew (below_none b2))
          clear b2 C2
          have hne : (bstr c.1).toList.isEmpty = false := by rw [bstr_empty]; simpa using unhide hHne
          have TL := hide (Tryd.strings_ToLower_ascii (bstr c.1) w2 (by have := unhide HLL; rw [bstr_size]; omega) (fun j b hb => tok_ascii b ((unhide HGc).1.2 b (List.mem_of_getElem? hb))))
          go_wp2_with fail
          refine (unhide TL).mono ?_
          rintro e w3 ⟨rfl, b3⟩
          have HS3 := hide ((unhide HS2).grew (below_none b3))
          clear b3 TL
          rw [bstr_list]
          generalize hTL : (⟨(toLowerA c.1).toArray⟩ : ByteArray) = tl
          have HTL := hide hTL
          clear hTL
          have hmm := @run_makeMap Tryd.prog
          go_upto_block 4 with fail
          go_cut [5, 9, 10, 11] from 32 to 65 (fun sv _ _ _ wx => Hid (∃ l' : List UInt8, sv = .string (bstr l') ∧ l'.length ≤ U.length ∧ l'.dropWhile isSep = hdr rest ∧ St3 w w.heap.size M u3 dn (w3.heap.size + 1) w3.heap.size tl wx (vals c.2)))
          case first =>
            have H0 : Hid (∃ (j : Nat) (l' : List UInt8), Value.string (bstr U) = .string (bstr l') ∧ At3 c.2 rest j l' ∧ j ≤ c.2.length ∧ l'.length ≤ U.length ∧ St3 w w.heap.size M u3 dn (w3.heap.size + 1) w3.heap.size tl ((w3.alloc (.map #[] 0)).alloc (.cells #[.string tl, .map (some w3.heap.size)] 49)) (vals (c.2.take j))) :=
              hide ⟨0, U, rfl, unhide H3, Nat.zero_le _, Nat.le_refl _, (unhide HS3).begin_⟩
            have HUL : Hid (U.length ≤ 1000000000) := hide (by have := unhide HLL; omega)
            have HCL : Hid (c.2.length ≤ 1000000000) := hide (by have := rps_count c.2 rest; rw [unhide HUE] at this; have := unhide HUL; omega)
            clear HS3 HS2 HS1 HST H3 HU HH HSEP HTK HTKp HLL HTL
            go_wp2_with fail
            go_loopw [5] (fun sv wy => Hid (∃ (j : Nat) (l' : List UInt8), sv = .string (bstr l') ∧ At3 c.2 rest j l' ∧ j ≤ c.2.length ∧ l'.length ≤ U.length ∧ St3 w w.heap.size M u3 dn (w3.heap.size + 1) w3.heap.size tl wy (vals (c.2.take j)))) (fun sv _ => strLen sv)
            case atStart => exact H0
            case round =>
              clear H0
              obtain ⟨j, l', rfl, h3, hj, hl', hs3⟩ := unhide hrel
              have A0 := hide hs3
              have H3 := hide h3
              clear hrel hs3 h3
              by_cases hjl : j < c.2.length
              · have hA : l' = rps true (c.2.drop j) ++ tailT rest := by
                  rcases unhide H3 with ⟨_, h⟩ | ⟨h, _⟩
                  · exact h
                  · omega
                obtain ⟨hd1, htok⟩ := at3_more (unhide HGc).2 hA hjl
                have HAF := hide (at3_after (rest := rest) hjl)
                have HVT : Hid (vals (c.2.take (j + 1)) = vals (c.2.take j) ++ [(c.2[j].1, c.2[j].2.1)]) := hide (by rw [List.take_succ_eq_append_getElem hjl]; unfold vals; rw [List.map_append]; rfl)
                have HLD := hide (show (c.2[j].1 ++ (61 :: (quoted c.2[j].2.1 ++ (rps false (c.2.drop (j + 1)) ++ tailT rest)))).length ≤ l'.length by rw [← hd1]; exact dropWhile_le isWs l')
                have C1 := hide (trim_ws l' _ wr hd1 (by have := unhide HUL; omega))
                have HTOK := hide htok
                have HN0 := hide htok.1
                clear hA hd1 htok
                generalize c.2[j].1 = nm at *
                generalize c.2[j].2.1 = vv at *
                generalize rps false (c.2.drop (j + 1)) ++ tailT rest = D at *
                have HX := hide (show nm.length + 1 + (quoted vv ++ D).length ≤ l'.length by have := unhide HLD; simp only [List.length_append, List.length_cons] at this ⊢; omega)
                have hlz : l'.length ≤ 1000000000 := by have := unhide HUL; omega
                have h61 : Stop (61 :: (quoted vv ++ D)) := by intro x hx; simp at hx; subst hx; decide
                have hw61 : (61 :: (quoted vv ++ D)).dropWhile isWs = 61 :: (quoted vv ++ D) := drop_none _ _ (by intro x hx; simp at hx; subst hx; decide)
                go_wp2_with fail
                refine (unhide C1).mono ?_
                rintro e x1 ⟨rfl, y1⟩
                have A1 := hide ((unhide A0).grew (below_none y1))
                clear y1 C1
                have C2 := hide (cut_tok (nm ++ (61 :: (quoted vv ++ D))) nm (61 :: (quoted vv ++ D)) x1 rfl (unhide HTOK).2 h61 (by have := unhide HLD; omega))
                generalize nm ++ (61 :: (quoted vv ++ D)) = X2 at *
                have C3 := fun W => trim_ws (61 :: (quoted vv ++ D)) _ W hw61 (by have := unhide HX; simp only [List.length_cons]; omega)
                have C4 := fun W => has_pre (61 :: (quoted vv ++ D)) 61 W
                simp only [List.head?_cons, decide_true] at C4
                have hsl : ∀ W, (Instr.slice 9 (.string (bstr (61 :: (quoted vv ++ D)))) (some (.int .i64 1)) none none).run Tryd.prog W = .ok (.string (bstr (quoted vv ++ D))) W := fun W => slice_one 61 _ W
                have C5 := fun W => trim_ws (quoted vv ++ D) (quoted vv ++ D) W (qv_quoted vv D).2.2 (by have := unhide HX; omega)
                have C6 := fun W => cut_val vv D W (by have := unhide HX; omega)
                have HX4 := hide (show nm.length + 1 + D.length < l'.length by have := unhide HX; unfold quoted at this; simp only [List.length_append, List.length_cons] at this; omega)
                have HVL := hide (show vv.length ≤ 1000000000 by have := unhide HX; unfold quoted at this; have := esc_len vv; simp only [List.length_append, List.length_cons] at *; omega)
                generalize (61 :: (quoted vv ++ D)) = X3 at *
                generalize (quoted vv ++ D) = X4 at *
                have C3 := hide C3
                have C4 := hide C4
                have C5 := hide C5
                have C6 := hide C6
                clear h61 hw61
                go_wp2_with fail
                refine (unhide C2).mono ?_
                rintro e x2 ⟨rfl, y2⟩
                have A2 := hide ((unhide A1).grew (below_none y2))
                clear y2 C2
                have hne : (bstr nm).toList.isEmpty = false := by rw [bstr_empty]; simpa using unhide HN0
                go_wp2_with fail
                refine (unhide C3 _).mono ?_
                rintro e x3 ⟨rfl, y3⟩
                have A3 := hide ((unhide A2).grew (below_none y3))
                clear y3 C3
                go_wp2_with fail
                refine (unhide C4 _).mono ?_
                rintro e x4 ⟨rfl, hw⟩
                have hw2 := hw.symm; subst hw2
                clear hw C4
                go_wp2_with fail
                refine (unhide C5 _).mono ?_
                rintro e x5 ⟨rfl, y5⟩
                have A5 := hide ((unhide A3).grew (below_none y5))
                clear y5 C5
                go_wp2_with fail
                refine (unhide C6 _).mono ?_
                rintro e x6 ⟨rfl, y6⟩
                have A6 := hide ((unhide A5).grew (below_none y6))
                clear y6 C6
                have A6d := hide ((unhide A6).grew (w' := x6.drew) ⟨rfl, rfl, rfl, Nat.le_refl _, fun _ _ _ => rfl⟩)
                have hnmz := hide (show (bstr nm).size ≤ 140737488355328 by rw [bstr_size]; have := unhide HX; omega)
                have hasc := hide (show ∀ (j : Nat) (b : UInt8), (bstr nm).data.toList[j]? = some b → b.toNat < 128 from fun j b hb => tok_ascii b ((unhide HTOK).2 b (List.mem_of_getElem? hb)))
                have hkz := hide (show (⟨(toLowerA (bstr nm).data.toList).toArray⟩ : ByteArray).size ≤ maxLen by
                  show (toLowerA nm).toArray.size ≤ _
                  have := unhide HX
                  unfold maxLen
                  simp [toLowerA]; omega)
                have hvz := hide (show (bstr vv).size ≤ maxLen by rw [bstr_size]; have := unhide HVL; unfold maxLen; omega)
                have hpsl := hide (show (vals (c.2.take j)).length < maxLen by have := unhide HCL; unfold maxLen vals; simp; omega)
                go_wp2_with fail
                go_region_held3 (fun w' => w'.cell? ⟨w3.heap.size + 1, 1, none⟩ = some (.map (some w3.heap.size))) (first | exact (unhide A6d).c1 | exact (unhide A7).c1 | exact (unhide A8).c1) ((go_at_call 25; refine (Tryd.strings_ToLower_ascii (bstr nm) _ (unhide hnmz) (unhide hasc)).mono ?_; rintro e x7 ⟨rfl, hb7⟩; have A7 := hide ((unhide A6d).grew (below_none hb7)); obtain ⟨x8, hrun, hown8, hg8⟩ := World.ownsMap.update (unhide A7).mp (Maps.string_keyed Tryd.underlying9) Tryd.underlying33 (unhide hpsl) (WideMaps.keyOf_string_mk Tryd.underlying9 (unhide hkz)) (plainElem_string Tryd.underlying9 (s := bstr vv) (unhide hvz)); have A8 := hide ((unhide A7).put (p := (nm, vv)) hown8 hg8)))
                clear hrun hown8 hg8 hb7
                have C9 := hide (trim_ws D D x8 (unhide HAF).1 (by have := unhide HX4; omega))
                go_wp2_with fail
                refine (unhide C9).mono ?_
                rintro e x9 ⟨rfl, y9⟩
                have A9 := hide ((unhide A8).grew (below_none y9))
                clear y9 C9
                have CA := hide (has_pre D 44 x9)
                by_cases h44 : D.head? = some 44
                · rw [decide_eq_true h44] at CA
                  have H44 := hide ((unhide HAF).2.1 h44)
                  obtain ⟨D', hD'⟩ : ∃ D', D = 44 :: D' := by
                    cases D with
                    | nil => cases h44
                    | cons a r => simp at h44; subst h44; exact ⟨r, rfl⟩
                  clear h44
                  subst hD'
                  have hsl2 : ∀ W, (Instr.slice 9 (.string (bstr (44 :: D'))) (some (.int .i64 1)) none none).run Tryd.prog W = .ok (.string (bstr D')) W := fun W => slice_one 44 _ W
                  have HDL2 := hide (show D'.length < l'.length by have := unhide HX4; simp only [List.length_cons] at this; omega)
                  go_wp2_with fail
                  refine (unhide CA).mono ?_
                  rintro e xA ⟨rfl, hw⟩
                  have hw2 := hw.symm; subst hw2
                  clear hw CA
                  go_wp2
                  go_roundw
                  case rel => exact hide ⟨j + 1, D', rfl, unhide H44, hjl, by have := unhide HDL2; omega, by rw [unhide HVT]; exact unhide A9⟩
                  case measure =>
                    show (bstr D').size < (bstr l').size
                    rw [bstr_size, bstr_size]; exact unhide HDL2
                · rw [decide_eq_false h44] at CA
                  obtain ⟨hj1, hr0, hD0⟩ := (unhide HAF).2.2 h44
                  have HFN : Hid (D.length ≤ U.length ∧ D.dropWhile isSep = hdr rest ∧ vals (c.2.take (j + 1)) = vals c.2) := hide ⟨by rw [hD0]; exact Nat.zero_le _, by rw [hD0, hr0]; rfl, by rw [hj1, List.take_length]⟩
                  clear h44 hj1 hr0 hD0
                  go_wp2_with fail
                  refine (unhide CA).mono ?_
                  rintro e xA ⟨rfl, hw⟩
                  have hw2 := hw.symm; subst hw2
                  clear hw CA
                  go_wp2_with fail
                  go_meet
                  case rel => exact hide ⟨D, rfl, (unhide HFN).1, (unhide HFN).2.1, by rw [← (unhide HFN).2.2, unhide HVT]; exact unhide A9⟩
              · obtain ⟨hjj, hsepl, tk, u, hcut1, htk, hstp, hbr⟩ := at3_none (unhide HGr) (unhide H3) hjl
                have HX : Hid (l'.dropWhile isSep = hdr rest ∧ vals (c.2.take j) = vals c.2) := hide ⟨hsepl, by rw [hjj, List.take_length]⟩
                have C1 := hide (trim_ws l' (tk ++ u) wr hcut1 (by have := unhide HUL; omega))
                have HTKu := hide htk
                have HSTu := hide hstp
                have HBR := hide hbr
                have HLZ := hide (show (tk ++ u).length ≤ 1000000000 by rw [← hcut1]; have := dropWhile_le isWs l'; have := unhide HUL; omega)
                clear hjj hsepl hcut1 htk hstp hbr
                go_wp2_with fail
                refine (unhide C1).mono ?_
                rintro e x1 ⟨rfl, y1⟩
                have A1 := hide ((unhide A0).grew (below_none y1))
                clear y1 C1
                have C2 := hide (cut_tok (tk ++ u) tk u x1 rfl (unhide HTKu) (unhide HSTu) (by have := unhide HLZ; omega))
                have HLU := hide (show u.length ≤ 1000000000 by have := unhide HLZ; rw [List.length_append] at this; omega)
                generalize tk ++ u = X2 at *
                go_wp2_with fail
                refine (unhide C2).mono ?_
                rintro e x2 ⟨rfl, y2⟩
                have A2 := hide ((unhide A1).grew (below_none y2))
                clear y2 C2
                generalize hdu : u.dropWhile isWs = u' at *
                have C3 := hide (trim_ws u u' x2 hdu (by have := unhide HLU; omega))
                clear hdu
                go_wp2_with fail
                refine (unhide C3).mono ?_
                rintro e x3 ⟨rfl, y3⟩
                have A3 := hide ((unhide A2).grew (below_none y3))
                clear y3 C3
                by_cases ht0 : tk = []
                · have hte : (bstr tk).toList.isEmpty = true := by rw [bstr_empty, ht0]; rfl
                  clear ht0
                  go_wp2_with fail
                  go_meet
                  case rel => exact hide ⟨l', rfl, hl', (unhide HX).1, by rw [← (unhide HX).2]; exact unhide A3⟩
                · have hte : (bstr tk).toList.isEmpty = false := by rw [bstr_empty]; simpa using ht0
                  have C4 := hide (has_pre u' 61 x3)
                  have hp61 : decide (u'.head? = some 61) = false := decide_eq_false ((unhide HBR).resolve_left ht0)
                  rw [hp61] at C4
                  clear ht0 hp61
                  go_wp2_with fail
                  refine (unhide C4).mono ?_
                  rintro e x4 ⟨rfl, hw⟩
                  have hw2 := hw.symm; subst hw2
                  clear hw C4
                  go_wp2_with fail
                  go_meet
                  case rel => exact hide ⟨l', rfl, hl', (unhide HX).1, by rw [← (unhide HX).2]; exact unhide A3⟩
          case rest =>
            obtain ⟨l', hsv, hl', hsep', h3⟩ := unhide hcut
            subst hsv
            have A := hide h3
            obtain ⟨xs, hr, hch⟩ := h3.st.row
            have HCH := hide hch
            have HR := hide hr
            have HSEP' := hide hsep'
            have hcc0 := h3.c0
            have hcc1 := h3.c1
            have HLN := hide (row_bounds (n := dn.length) (unhide HDL))
            have HSZ := hide h3.st.sz
            clear hcut h3 hr hch hsep'
            go_wp2_with (at_builtin; refine wpList_append_own _ rfl _ _ 46 rfl w.heap.size 49 i0 _ 2 24 Tryd.underlying46 hi hz0 hz1 hz2 rfl (by decide) _ _ _ rfl ((unhide HR).alloc _) ⟨wc.heap.size, 0, none⟩ 1 1 [.string tl, .map (some w3.heap.size)] rfl rfl (World.news_of_block (heap_alloc_new wc _)) (two_cells _ _) (unhide HLN).1 (unhide HLN).2 (size_up (unhide HSZ) _) ?_)
            intro v' wd hown' hgrow _
            have HD := hide ((unhide A).done (sc := c.1) (by rw [← unhide HTL]) (unhide HCH) (unhide HR) hown' hgrow)
            clear hown' hgrow
            go_wp2
            go_roundw
            case rel =>
              refine hide ⟨k + 1, l', wd.heap.size, hkl, rfl, by have := unhide HLL; omega, by rw [unhide HSEP', unhide HRS], ?_⟩
              rw [unhide HTK, List.map_append, ← List.append_assoc, unhide HDN]
              exact unhide HD
            case measure =>
              show (bstr l').size < (bstr l).size
              rw [bstr_size, bstr_size]
              have := unhide HLL
              have := unhide HTKp
              omega
        · have hkk : k = cs.length := by omega
          have hd0 : hdr (cs.drop k) = [] := by rw [List.drop_eq_nil_of_le (by omega)]; rfl
          rw [hd0]
          have C2 := hide (cut_tok [] [] [] w1 rfl (by intro c hc; cases hc) (by intro c hc; cases hc) (by simp))
          have hne : (bstr []).toList.isEmpty = true := by rw [bstr_empty]; rfl
          clear hd0
          have HE : Hid (∀ W, (∃ M, St w w.heap.size M W u3 ((Css.take i).flatten.map pch ++ (cs.take k).map pch)) → ∃ M, St w w.heap.size M W u3 ((Css.take (i + 1)).flatten.map pch)) := hide fun W h => by
            obtain ⟨M, h⟩ := h
            refine ⟨M, ?_⟩
            rw [List.take_succ_eq_append_getElem hlt, hcs, List.flatten_append, List.map_append]
            rw [hkk, List.take_length] at h
            simpa using h
          clear hkk
          go_wp2_with fail
          refine (unhide C2).mono ?_
          rintro e w2 ⟨rfl, b2⟩
          have HS2 := hide ((unhide HS1).grew (below_none b2))
          clear b2 C2
          go_wp2
          go_roundw
          case rel => exact ⟨i + 1, hlt, by go_num, hide (unhide HE _ ⟨M, unhide HS2⟩)⟩
          case measure => simp [RowKit.intOf]; omega
    · go_wp2
      go_ret
      obtain ⟨M, hst⟩ := unhide HS
      rw [List.take_of_length_le (by omega)] at hst
      obtain ⟨xs, h1, h2⟩ := hst.row
      exact ⟨_, xs, M, rfl, h1, h2, hst.bel⟩
end Go.Proofs.Qxb6000905aDoor
