/-
  WALKS of seat b6000905aD: renderHeader.
-/
import Derived.Test.Qxb6000905aDoorW14
set_option linter.unusedVariables false
namespace Go.Proofs.Qxb6000905aDoor
open Go.RowKit Go.Lib

/-- A challenge as the plain side reads it. -/
def rcm (m : Mdl) : RC := (m.1.data.toList, prms m.2.1.2.2 m.2.2.2.2)
def Mdl.Fit (m : Mdl) : Prop := m.2.2.2.2.length = m.2.1.2.2.length ∧ m.2.1.2.2.length ≤ 1048576 ∧ (∀ t ∈ m.2.2.2.2, t.size ≤ 1048576)
theorem hdr_one (m : Mdl) : hdr [rcm m] = chal m.1 m.2.1.2.2 m.2.2.2.2 := rfl
theorem hdr_snoc : ∀ (l : List RC) (c : RC), hdr (l ++ [c]) = hdr l ++ (if l = [] then [] else [44, 32]) ++ hdr [c]
  | [], c => by simp [hdr]
  | [a], c => by simp [hdr]
  | a :: b :: r, c => by
    have := hdr_snoc (b :: r) c
    simp only [List.cons_append, hdr] at this ⊢
    rw [this]
    simp
theorem hdr_take (ms : List Mdl) (i : Nat) (h : i < ms.length) : hdr ((ms.take (i + 1)).map rcm) = hdr ((ms.take i).map rcm) ++ (if i = 0 then [] else [44, 32]) ++ hdr [rcm ms[i]] := by
  rw [List.take_succ_eq_append_getElem h, List.map_append]
  show hdr (_ ++ [rcm ms[i]]) = _
  rw [hdr_snoc]
  by_cases h0 : i = 0
  · subst h0; simp
  · rw [if_neg h0, if_neg]
    intro e
    have h2 : ((ms.take i).map rcm).length = i := by simp; omega
    rw [e] at h2
    exact h0 h2.symm
theorem rowIs_kp {w w' : World} {B b n : Nat} {f : Nat → Value} (h : w.rowIs b 9 n f) (hk : Kp B w w') : w'.rowIs b 9 n f := by
  obtain ⟨c, hb, hn, hc⟩ := h
  exact ⟨c, hk.2 b _ hb (by simp) (fun _ _ e => by cases e), hn, hc⟩
/-- The call's own bytes as a string. -/
theorem getD_cells (l : List UInt8) (j : Nat) (h : j < l.length) : (cellsB l)[j]? = some (.int .u8 l[j].toNat) := by
  unfold cellsB; rw [List.getElem?_map, List.getElem?_eq_getElem h]; rfl
theorem Own.conv {B : Nat} {w : World} {v : Value} {l : List UInt8} (h : Own B w v l) : (convert 44 9 v).run Tryd.prog w = .ok (.string ⟨l.toArray⟩) w := by
  rcases h.2 with ⟨rfl, h0⟩ | ⟨g, cap, cur, rfl, _, hg, hc, _, hs, ht⟩
  · have : l = [] := List.eq_nil_of_length_eq_zero h0
    subst this
    rw [run_convert_bytes_string (P := Tryd.prog) w 44 9 5 none 0 0 Tryd.underlying44 Tryd.underlying5 Tryd.underlying9]
    simp [Conv.bytesToString]; rfl
  · refine run_convert_bytes_back (P := Tryd.prog) w 44 9 5 ⟨g, 0, none⟩ cap l Tryd.underlying44 Tryd.underlying5 Tryd.underlying9 ?_
    intro j hj
    exact World.ownsRow.cells h (g := g) rfl j _ (getD_cells l j hj)
theorem own_nil (B : Nat) (w : World) : Own B w (.slice none 0 0) [] := World.ownsRow_nil _ _ _ _
theorem ViewM.below {w w' : World} {p : Option Addr} {ms : List Mdl} (h : ViewM w p ms) (hb : Below w.heap.size w w') : ViewM w' p ms := by
  intro hl
  obtain ⟨b, o, rfl, hc⟩ := h hl
  refine ⟨b, o, rfl, fun j hj => ?_⟩
  obtain ⟨c0, c1, c2, k⟩ := hc j hj
  exact ⟨(hb.cell (p := ⟨b, o + j * 3, none⟩) (World.block_lt_of_cell? w _ c0)).trans c0, (hb.cell (p := ⟨b, o + j * 3 + 1, none⟩) (World.block_lt_of_cell? w _ c1)).trans c1, (hb.cell (p := ⟨b, o + j * 3 + 2, none⟩) (World.block_lt_of_cell? w _ c2)).trans c2,
    k.1, ⟨k.2.1.1, k.2.1.2.1, k.2.1.2.2.1, k.2.1.2.2.2.below hb⟩, ⟨k.2.2.1, k.2.2.2.1, k.2.2.2.2.1, k.2.2.2.2.2.below hb⟩⟩

theorem new_cell (w : World) (v : Value) (t : TypeId) : (w.alloc (.cells #[v] t)).cell? ⟨w.heap.size, 0, none⟩ = some v := by
  have := heap_alloc_new w (.cells #[v] t)
  unfold World.cell?
  rw [this]
  rfl
def svs (ms : List Mdl) : List ByteArray := ms.map fun m => bstr (hdr [rcm m])
theorem svs_len (ms : List Mdl) : (svs ms).length = ms.length := by simp [svs]
theorem svs_get (ms : List Mdl) (i : Nat) (h : i < ms.length) : (svs ms).getD i ⟨#[]⟩ = bstr (hdr [rcm ms[i]]) := by
  rw [List.getD_eq_getElem?_getD]; simp [svs, h]

set_option maxHeartbeats 4000000 in
set_option maxRecDepth 100000 in
/-- renderHeader, one value a challenge. -/
theorem render_many (p : Option Addr) (cap : Nat) (ms : List Mdl) (w : World) (hn : ms.length ≤ 1048576) (hV : ViewM w p ms) (hF : ∀ m ∈ ms, m.Fit) (hL : ∀ m ∈ ms, (hdr [rcm m]).length ≤ 1000000000) :
    Calls Tryd.prog 10 #[.slice p ms.length cap, .bool false] w fun e w' => OutS w (svs ms) e w' ∧ Below w.heap.size w w' := by
  obtain ⟨i0, hi, hz0, hz1, hz2⟩ := info_parts Tryd.info9
  have HV := hide hV
  have HF := hide hF
  have HL := hide hL
  clear hV hF hL
  go_enter Tryd.func10, Tryd.ntmps10
  go_wp2_with (at_make; refine wpList_make_row _ rfl _ _ 25 rfl 9 i0 (.string ⟨#[]⟩) Tryd.underlying25 hi hz0 hz1 rfl _ _ ms.length rfl rfl (by rw [hz2]; omega) (by omega) ?_)
  go_loopw [6] (fun x wr => ∃ i : Nat, i ≤ ms.length ∧ x = .int .i64 i ∧ Hid (wr.rowIs w.heap.size 9 ms.length (strF (svs ms) i)) ∧ Hid (Below w.heap.size w wr)) (fun x _ => ms.length - (RowKit.intOf x).toNat)
  case atStart => exact ⟨0, Nat.zero_le _, rfl, hide (str_start w (svs ms) _), hide ((Below.refl _ _).alloc (Nat.le_refl _) _)⟩
  case round =>
    obtain ⟨i, hin, rfl, HR, HB⟩ := hrel
    by_cases hlt : i < ms.length
    · obtain ⟨b, o, rfl, hc⟩ := ((unhide HV).below (unhide HB)) (by omega)
      obtain ⟨c0, c1, c2, ok⟩ := hc i hlt
      have ok0 := (unhide HV (by omega))
      obtain ⟨b', o', e', hc'⟩ := ok0
      have ok2 := (hc' i hlt).2.2.2
      clear hc hc' e'
      have HSG := hide (svs_get ms i hlt)
      have ft := unhide HF _ (List.getElem_mem hlt)
      have fl := unhide HL _ (List.getElem_mem hlt)
      rcases hm : ms[i] with ⟨sc, ⟨np, nc, ns⟩, ⟨vp, vc, vs⟩⟩
      rw [hm] at c0 c1 c2 ok2 ft fl HSG
      simp only [Sl.val] at c0 c1 c2
      clear hm ok
      have HC := hide (chal_any w (.slice none 0 0) [] sc np vp nc vc ns vs wr ft.1 ft.2.1 ft.2.2 (by rw [hdr_one] at fl; simpa using Nat.le_trans fl (by decide)) (unhide HB) (own_nil _ _) ok2.2.1.2.2.2 ok2.2.2.2.2.2)
      clear ft fl ok2
      go_wp2_with fail
      refine (unhide HC).mono ?_
      rintro e w1 ⟨v1, rfl, ho1, hk1⟩
      have hcv := ho1.conv
      rw [List.nil_append, ← hdr_one (sc, (np, nc, ns), (vp, vc, vs))] at hcv
      have HR1 := hide (rowIs_kp (unhide HR) hk1)
      have HB1 := hide ((unhide HB).trans hk1.1)
      have hc := (unhide HR1).cell hlt
      have hf := (unhide HR1).frozen i
      clear ho1 hk1 c0 c1 c2 HC HR HB
      generalize hH : hdr [rcm (sc, (np, nc, ns), (vp, vc, vs))] = hh at *
      clear hH
      go_wp2
      go_roundw
      case rel => exact ⟨i + 1, hlt, by go_num, hide (str_step (unhide HR1) (unhide HSG).symm), hide ((unhide HB1).setCell (Nat.le_refl _) _)⟩
      case measure => simp [RowKit.intOf]; omega
    · have e : i = ms.length := by omega
      subst e
      go_wp2
      go_ret
      refine ⟨⟨_, _, by rw [svs_len]; rfl, fun h => (by cases h), (fun a h => by cases h; exact Nat.le_refl _), str_view (by rw [svs_len]; exact unhide HR)⟩, unhide HB⟩

set_option maxHeartbeats 4000000 in
set_option maxRecDepth 100000 in
/-- renderHeader, all in one value. -/
theorem render_one (p : Option Addr) (cap : Nat) (ms : List Mdl) (w : World) (hn : ms.length ≤ 1048576) (hV : ViewM w p ms) (hF : ∀ m ∈ ms, m.Fit) (hL : ∀ i, i ≤ ms.length → (hdr ((ms.take i).map rcm)).length ≤ 1000000000) :
    Calls Tryd.prog 10 #[.slice p ms.length cap, .bool true] w fun e w' => OutS w [bstr (hdr (ms.map rcm))] e w' ∧ Below w.heap.size w w' := by
  have HV := hide hV
  have HF := hide hF
  have HL := hide hL
  clear hV hF hL
  go_enter Tryd.func10, Tryd.ntmps10
  go_wp2
  go_loopw [7, 8] (fun u x wr => ∃ i : Nat, i ≤ ms.length ∧ x = .int .i64 i ∧ Hid (Own w.heap.size wr u (hdr ((ms.take i).map rcm))) ∧ Hid (Below w.heap.size w wr)) (fun _ x _ => ms.length - (RowKit.intOf x).toNat)
  case atStart => exact ⟨0, Nat.zero_le _, rfl, hide (own_nil _ _), hide (Below.refl _ _)⟩
  case round =>
    obtain ⟨i, hin, rfl, HO, HB⟩ := hrel
    by_cases hlt : i < ms.length
    · have hwr : w.heap.size ≤ wr.heap.size := (unhide HB).size
      have HT := hide (hdr_take ms i hlt)
      have HLi := hide (unhide HL (i + 1) hlt)
      have hT : Hid ((hdr ((ms.take i).map rcm)).length + (if i = 0 then 0 else 2) + (hdr [rcm ms[i]]).length ≤ 1000000000) := by
        have := unhide HLi
        rw [unhide HT, List.length_append, List.length_append] at this
        refine hide (Nat.le_trans (Nat.le_of_eq ?_) this)
        split <;> rfl
      obtain ⟨b, o, rfl, hc'⟩ := unhide HV (by omega)
      have ok2 := (hc' i hlt).2.2.2
      clear hc'
      have HCC : Hid (∀ W, Below w.heap.size w W → W.cell? ⟨b, o + i * 3, none⟩ = some (.string ms[i].1) ∧ W.cell? ⟨b, o + i * 3 + 1, none⟩ = some ms[i].2.1.val ∧ W.cell? ⟨b, o + i * 3 + 2, none⟩ = some ms[i].2.2.val) := hide fun W h => by
        obtain ⟨b', o', e', hc'⟩ := ((unhide HV).below h) (by omega)
        cases e'
        exact ⟨(hc' i hlt).1, (hc' i hlt).2.1, (hc' i hlt).2.2.1⟩
      have ft := unhide HF _ (List.getElem_mem hlt)
      rcases hm : ms[i] with ⟨sc, ⟨np, nc, ns⟩, ⟨vp, vc, vs⟩⟩
      rw [hm] at HCC ok2 ft HT hT
      simp only [Sl.val] at HCC
      clear hm HLi
      have HC := hide (fun (W : World) (v : Value) (bs : List UInt8) h1 h2 h3 => chal_any w v bs sc np vp nc vc ns vs W ft.1 ft.2.1 ft.2.2 h1 h2 h3 ok2.2.1.2.2.2 ok2.2.2.2.2.2)
      clear ft ok2
      rw [hdr_one] at HT hT
      simp only [] at HT hT
      generalize hG : hdr ((ms.take i).map rcm) = g at *
      clear hG
      by_cases hi0 : i = 0
      · have hib : ¬ ((0 : Int) < (i : Int)) := by omega
        rw [if_pos hi0] at HT hT
        clear hi0
        obtain ⟨c0, c1, c2⟩ := unhide HCC wr (unhide HB)
        go_wp2_with fail
        refine (unhide HC wr _ g (by have := unhide hT; omega) (unhide HB) (unhide HO)).mono ?_
        rintro e w1 ⟨v1, rfl, ho1, hk1⟩
        have HO1 := hide ho1
        have HB1 := hide ((unhide HB).trans hk1.1)
        clear ho1 hk1 c0 c1 c2 HC HO HB
        go_wp2
        go_roundw
        case rel => exact ⟨i + 1, hlt, by go_num, hide (by rw [unhide HT]; simpa using unhide HO1), HB1⟩
        case measure => simp [RowKit.intOf]; omega
      · have hib : (0 : Int) < (i : Int) := by omega
        rw [if_neg hi0] at HT hT
        clear hi0
        go_wp2_with (at_builtin; refine app_str rfl _ _ rfl w.heap.size _ g rfl (unhide HO) ⟨#[44, 32]⟩ rfl (by have := unhide hT; rw [show (ByteArray.mk #[44, 32]).size = 2 from rfl]; omega) hwr ?_)
        intro v0 wa ho0 hk0
        have HO0 := hide ho0
        have HB0 := hide ((unhide HB).trans hk0.1)
        clear ho0 hk0 HO HB
        obtain ⟨c0, c1, c2⟩ := unhide HCC wa (unhide HB0)
        go_wp2_with fail
        refine (unhide HC wa _ _ (by have := unhide hT; rw [List.length_append]; show g.length + 2 + _ ≤ _; omega) (unhide HB0) (unhide HO0)).mono ?_
        rintro e w1 ⟨v1, rfl, ho1, hk1⟩
        have HO1 := hide ho1
        have HB1 := hide ((unhide HB0).trans hk1.1)
        clear ho1 hk1 c0 c1 c2 HC HO0 HB0
        go_wp2
        go_roundw
        case rel => exact ⟨i + 1, hlt, by go_num, hide (by rw [unhide HT]; exact unhide HO1), HB1⟩
        case measure => simp [RowKit.intOf]; omega
    · have hcv := (unhide HO).conv
      have e : ms.take i = ms := List.take_of_length_le (by omega)
      rw [e] at hcv
      generalize hH : hdr (ms.map rcm) = hh at *
      go_wp2
      go_ret
      refine ⟨⟨_, _, rfl, fun h => (by cases h), (fun a h => by cases h; exact (unhide HB).size), fun _ => ⟨_, _, rfl, fun j hj => ?_⟩⟩, (unhide HB).alloc (unhide HB).size _⟩
      obtain rfl : j = 0 := by simp at hj; omega
      subst hH
      exact new_cell wr (.string (bstr _)) 9
end Go.Proofs.Qxb6000905aDoor
