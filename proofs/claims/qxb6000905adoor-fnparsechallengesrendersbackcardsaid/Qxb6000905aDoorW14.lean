/-
  WALKS of seat b6000905aD: appendChallenge.
-/
import Derived.Test.Qxb6000905aDoorW13
set_option linter.unusedVariables false
namespace Go.Proofs.Qxb6000905aDoor
open Go.RowKit Go.Lib

def prms (names vals : List ByteArray) : List (List UInt8 × List UInt8 × List UInt8) := (names.zip vals).map fun x => (x.1.data.toList, x.2.data.toList, quoted x.2.data.toList)
theorem prms_drop (names vals : List ByteArray) (i : Nat) (h1 : i < names.length) (h2 : i < vals.length) : (prms names vals).drop i = (names[i].data.toList, vals[i].data.toList, quoted vals[i].data.toList) :: (prms names vals).drop (i + 1) := by
  unfold prms
  have hl : i < ((names.zip vals).map fun x => (x.1.data.toList, x.2.data.toList, quoted x.2.data.toList)).length := by simp; omega
  rw [List.drop_eq_getElem_cons hl]
  simp
theorem prms_end (names vals : List ByteArray) (i : Nat) (h : names.length ≤ i) : (prms names vals).drop i = [] := by
  refine List.drop_eq_nil_of_le ?_
  unfold prms; simp; omega
theorem rps_true (n v q : List UInt8) (r : List (List UInt8 × List UInt8 × List UInt8)) : rps true ((n, v, q) :: r) = [32] ++ (n ++ (61 :: (q ++ rps false r))) := rfl
theorem rps_false (n v q : List UInt8) (r : List (List UInt8 × List UInt8 × List UInt8)) : rps false ((n, v, q) :: r) = [44, 32] ++ (n ++ (61 :: (q ++ rps false r))) := rfl
/-- What one parameter adds. -/
def one (first : Bool) (n v : List UInt8) : List UInt8 := (if first then [32] else [44, 32]) ++ n ++ [61, 34] ++ esc v ++ [34]
theorem rps_one (first : Bool) (n v : List UInt8) (r : List (List UInt8 × List UInt8 × List UInt8)) : rps first ((n, v, quoted v) :: r) = one first n v ++ rps false r := by
  cases first <;> simp [rps, one, quoted]
theorem esc_le : ∀ l : List UInt8, (esc l).length ≤ 2 * l.length
  | [] => Nat.le_refl _
  | c :: r => by
    have := esc_le r
    unfold esc
    rw [List.length_append, List.length_cons]
    split <;> simp <;> omega
theorem one_len (first : Bool) (n v : List UInt8) : (one first n v).length = (if first then 1 else 2) + n.length + 2 + (esc v).length + 1 := by
  cases first <;> simp [one] <;> omega
theorem size_list (t : ByteArray) : t.data.toList.length = t.size := by simp


/-- The struct of a challenge in a block of its own. -/
def Bx (k : Nat) (sc : ByteArray) (a b : Value) (w : World) : Prop := w.heap[k]? = some (.cells #[.string sc, a, b] 27)
theorem Bx.kp {k : Nat} {sc : ByteArray} {a b : Value} {B : Nat} {w w' : World} (h : Bx k sc a b w) (hk : Kp B w w') : Bx k sc a b w' := hk.2 k _ h (by simp) (fun c fz e => by cases e)
theorem Bx.new (w : World) (sc : ByteArray) (a b : Value) : Bx w.heap.size sc a b (w.alloc (.cells #[.string sc, a, b] 27)) := heap_alloc_new w _
theorem Bx.cells {k : Nat} {sc : ByteArray} {a b : Value} {w : World} (h : Bx k sc a b w) : w.cell? ⟨k, 0, none⟩ = some (.string sc) ∧ w.cell? ⟨k, 1, none⟩ = some a ∧ w.cell? ⟨k, 2, none⟩ = some b := by
  have h' : w.heap[k]? = some (.cells #[.string sc, a, b] 27) := h
  exact ⟨by simp [World.cell?, h'], by simp [World.cell?, h'], by simp [World.cell?, h']⟩
theorem Kp.below {B : Nat} {w0 w w' : World} (h : Kp B w w') (hb : Below B w0 w) : Below B w0 w' := hb.trans h.1
/-- What appendChallenge adds. -/
def chal (sc : ByteArray) (names vals : List ByteArray) : List UInt8 := sc.data.toList ++ rps true (prms names vals)

set_option maxHeartbeats 4000000 in
set_option maxRecDepth 100000 in
/-- appendChallenge. -/
theorem chal_any (w0 : World) (v : Value) (bs : List UInt8) (sc : ByteArray) (pn pv : Option Addr) (cn cv : Nat) (names vals : List ByteArray) (w : World) (hnv : vals.length = names.length) (hnn : names.length ≤ 1048576)
    (hsz : ∀ t ∈ vals, t.size ≤ 1048576) (hlen : bs.length + (chal sc names vals).length ≤ 1000000000000) (hb : Below w0.heap.size w0 w) (hown : Own w0.heap.size w v bs) (hN : ViewS w0 pn names) (hV : ViewS w0 pv vals) :
    Calls Tryd.prog 19 #[v, .agg #[.string sc, .slice pn names.length cn, .slice pv vals.length cv]] w fun e w' => ∃ v', e = .returned v' ∧ Own w0.heap.size w' v' (bs ++ chal sc names vals) ∧ Kp w0.heap.size w w' := by
  have HB0 := hide hb
  have HO := hide (hown.alloc (.cells #[.string sc, .slice pn names.length cn, .slice pv vals.length cv] 27))
  have HN := hide hN
  have HV := hide hV
  have HSZ := hide hsz
  have hB : w0.heap.size ≤ w.heap.size := hb.size
  have hBx := Bx.new w sc (.slice pn names.length cn) (.slice pv vals.length cv)
  have HX := hide hBx
  have HK := hide ((Kp.refl w0.heap.size w).alloc hB (.cells #[.string sc, .slice pn names.length cn, .slice pv vals.length cv] 27))
  have HNV := hide hnv
  clear hown hN hV hsz hb hBx hnv
  unfold chal at hlen
  rw [List.length_append, size_list] at hlen
  generalize hBB : w0.heap.size = B at *
  go_enter Tryd.func19, Tryd.ntmps19
  go_wp2_with (at_builtin; refine app_str rfl _ _ rfl B _ bs rfl (unhide HO) sc rfl (by omega) (size_up' hB _) ?_)
  intro va wa hoa hba
  have HO0 := hide hoa
  have HK0 := hide ((unhide HK).trans hba)
  have HX0 := hide ((unhide HX).kp hba)
  clear hoa hba HO HK HX
  generalize hkk : w.heap.size = kk at *
  go_wp2
  go_loopw [0, 5] (fun u k wr => ∃ (i : Nat) (g : List UInt8), i ≤ names.length ∧ k = .int .i64 i ∧ Hid (Own B wr u (bs ++ sc.data.toList ++ g)) ∧ Hid (Kp B w wr) ∧ Hid (Bx kk sc (.slice pn names.length cn) (.slice pv vals.length cv) wr) ∧ Hid (rps true (prms names vals) = g ++ rps (decide (i = 0)) ((prms names vals).drop i))) (fun _ k _ => names.length - (RowKit.intOf k).toNat)
  case atStart => exact ⟨0, [], Nat.zero_le _, rfl, hide (by simpa using unhide HO0), HK0, HX0, hide rfl⟩
  case round =>
    clear HO0 HK0 HX0
    obtain ⟨i, g, hi, rfl, HO, HK, HX, HE⟩ := hrel
    have hwr : B ≤ wr.heap.size := Nat.le_trans (by omega) (unhide HK).size
    obtain ⟨_, hx1, hx2⟩ := (unhide HX).cells
    by_cases hlt : i < names.length
    · have hlt2 : i < vals.length := by rw [unhide HNV]; exact hlt
      have HE2 := hide (show rps true (prms names vals) = (g ++ one (decide (i = 0)) names[i].data.toList vals[i].data.toList) ++ rps (decide (i + 1 = 0)) ((prms names vals).drop (i + 1)) by
        rw [unhide HE, prms_drop names vals i hlt hlt2, rps_one, List.append_assoc]; simp)
      have HT : Hid (bs.length + sc.size + (g.length + (one (decide (i = 0)) names[i].data.toList vals[i].data.toList).length) ≤ 1000000000000) := by
        have := congrArg List.length (unhide HE2)
        rw [List.length_append, List.length_append] at this
        exact hide (by omega)
      have HT2 : Hid (bs.length + sc.size + g.length + (if decide (i = 0) then 1 else 2) + names[i].size + 2 + (esc vals[i].data.toList).length + 1 ≤ 1000000000000) := by
        have := unhide HT
        rw [one_len, size_list] at this
        exact hide (by omega)
      have HSZi := hide (unhide HSZ _ (List.getElem_mem hlt2))
      have HCN : Hid (∀ W, Below B w0 W → ViewS W pn names) := hide fun W h => (unhide HN).below (by rw [hBB]; exact h)
      have HCV : Hid (∀ W, Below B w0 W → ViewS W pv vals) := hide fun W h => (unhide HV).below (by rw [hBB]; exact h)
      obtain ⟨bn, on, rfl, _⟩ := unhide HN (by omega)
      obtain ⟨bv, ov, rfl, _⟩ := unhide HV (by omega)
      have HCN2 : Hid (∀ W, Below B w0 W → W.cell? ⟨bn, on + i, none⟩ = some (.string names[i])) := hide fun W h => by
        obtain ⟨b, o, e, hc⟩ := unhide HCN W h (by omega)
        cases e
        exact hc i hlt
      have HCV2 : Hid (∀ W, Below B w0 W → W.cell? ⟨bv, ov + i, none⟩ = some (.string vals[i])) := hide fun W h => by
        obtain ⟨b, o, e, hc⟩ := unhide HCV W h (by omega)
        cases e
        exact hc i hlt2
      clear HCN HCV
      generalize hNI : names[i] = ni at *
      generalize hVI : vals[i] = vi at *
      clear hNI hVI
      by_cases hi0 : i = 0
      · have hib : ((i : Int) == 0) = true := by rw [hi0]; rfl
        have hdf : decide (i = 0) = true := by simp; omega
        clear hi0
        rw [hdf] at HE2 HT2
        have HT3 := hide (show bs.length + sc.size + g.length + 1 + ni.size + 2 + (esc vi.data.toList).length + 1 ≤ 1000000000000 from unhide HT2)
        clear HT HT2 hdf
        go_wp2_with (at_builtin; refine app_cells rfl _ _ rfl B _ (bs ++ sc.data.toList ++ g) rfl ((unhide HO).alloc _) ⟨wr.heap.size, 0, none⟩ [32] 1 rfl (lit_cells _ _ _ rfl) (by have := unhide HT3; simp; omega) (size_up' hwr _) ?_)
        intro v1 w1 ho1 hb1
        have HO1 := hide ho1
        have HK1 := hide (below_al (unhide HK) hwr hb1)
        have HX1 := hide ((unhide HX).kp (below_al (Kp.refl _ _) hwr hb1))
        have hw1 : B ≤ w1.heap.size := Nat.le_trans (by omega) (unhide HK1).size
        clear ho1 hb1 hx1 hx2 HX HK HO
        obtain ⟨_, hx1, hx2⟩ := (unhide HX1).cells
        have hc1 := unhide HCN2 _ ((unhide HK1).below (unhide HB0))
        go_wp2_with (at_builtin; refine app_str rfl _ _ rfl B _ _ rfl (unhide HO1) ni rfl (by have := unhide HT3; simp; omega) hw1 ?_)
        intro v2 w2 ho2 hb2
        have HO2 := hide ho2
        have HK2 := hide ((unhide HK1).trans hb2)
        have HX2 := hide ((unhide HX1).kp hb2)
        have hw2 : B ≤ w2.heap.size := Nat.le_trans (by omega) (unhide HK2).size
        clear ho2 hb2 hc1 hx1 hx2 HX1 HK1 HO1
        go_wp2_with (at_builtin; refine app_cells rfl _ _ rfl B _ _ rfl ((unhide HO2).alloc _) ⟨w2.heap.size, 0, none⟩ [61] 1 rfl (lit_cells _ _ _ rfl) (by have := unhide HT3; simp; omega) (size_up' hw2 _) ?_)
        intro v3 w3 ho3 hb3
        have HO3 := hide ho3
        have HK3 := hide (below_al (unhide HK2) hw2 hb3)
        have HX3 := hide ((unhide HX2).kp (below_al (Kp.refl _ _) hw2 hb3))
        have hw3 : B ≤ w3.heap.size := Nat.le_trans (by omega) (unhide HK3).size
        clear ho3 hb3 HX2 HK2 HO2
        obtain ⟨_, hx1, hx2⟩ := (unhide HX3).cells
        have hc3 := unhide HCV2 _ ((unhide HK3).below (unhide HB0))
        go_wp2_with fail
        refine (quoted_any B _ _ vi w3 (by have := unhide HT3; have := unhide HSZi; simp; omega) hw3 (unhide HO3)).mono ?_
        rintro e w4 ⟨v4, rfl, ho4, hb4⟩
        have HO4 := hide ho4
        have HK4 := hide ((unhide HK3).trans hb4)
        have HX4 := hide ((unhide HX3).kp hb4)
        clear ho4 hb4 hc3 hx1 hx2 HX3 HK3 HO3
        go_wp2
        go_roundw
        case rel => exact ⟨i + 1, g ++ one true ni.data.toList vi.data.toList, hlt, by go_num, hide (by have := unhide HO4; simpa [one, quoted] using this), HK4, HX4, HE2⟩
        case measure => simp [RowKit.intOf]; omega
      · have hib : ((i : Int) == 0) = false := beqf (by omega)
        have hdf : decide (i = 0) = false := by simp; omega
        clear hi0
        rw [hdf] at HE2 HT2
        have HT3 := hide (show bs.length + sc.size + g.length + 2 + ni.size + 2 + (esc vi.data.toList).length + 1 ≤ 1000000000000 from unhide HT2)
        clear HT HT2 hdf
        go_wp2_with (at_builtin; refine app_str rfl _ _ rfl B _ (bs ++ sc.data.toList ++ g) rfl (unhide HO) ⟨#[44, 32]⟩ rfl (by have := unhide HT3; simp; rw [show (ByteArray.mk #[44, 32]).size = 2 from rfl]; omega) hwr ?_)
        intro v1 w1 ho1 hb1
        have HO1 := hide ho1
        have HK1 := hide ((unhide HK).trans hb1)
        have HX1 := hide ((unhide HX).kp hb1)
        have hw1 : B ≤ w1.heap.size := Nat.le_trans (by omega) (unhide HK1).size
        clear ho1 hb1 hx1 hx2 HX HK HO
        obtain ⟨_, hx1, hx2⟩ := (unhide HX1).cells
        have hc1 := unhide HCN2 _ ((unhide HK1).below (unhide HB0))
        go_wp2_with (at_builtin; refine app_str rfl _ _ rfl B _ _ rfl (unhide HO1) ni rfl (by have := unhide HT3; simp; omega) hw1 ?_)
        intro v2 w2 ho2 hb2
        have HO2 := hide ho2
        have HK2 := hide ((unhide HK1).trans hb2)
        have HX2 := hide ((unhide HX1).kp hb2)
        have hw2 : B ≤ w2.heap.size := Nat.le_trans (by omega) (unhide HK2).size
        clear ho2 hb2 hc1 hx1 hx2 HX1 HK1 HO1
        go_wp2_with (at_builtin; refine app_cells rfl _ _ rfl B _ _ rfl ((unhide HO2).alloc _) ⟨w2.heap.size, 0, none⟩ [61] 1 rfl (lit_cells _ _ _ rfl) (by have := unhide HT3; simp; omega) (size_up' hw2 _) ?_)
        intro v3 w3 ho3 hb3
        have HO3 := hide ho3
        have HK3 := hide (below_al (unhide HK2) hw2 hb3)
        have HX3 := hide ((unhide HX2).kp (below_al (Kp.refl _ _) hw2 hb3))
        have hw3 : B ≤ w3.heap.size := Nat.le_trans (by omega) (unhide HK3).size
        clear ho3 hb3 HX2 HK2 HO2
        obtain ⟨_, hx1, hx2⟩ := (unhide HX3).cells
        have hc3 := unhide HCV2 _ ((unhide HK3).below (unhide HB0))
        go_wp2_with fail
        refine (quoted_any B _ _ vi w3 (by have := unhide HT3; have := unhide HSZi; simp; omega) hw3 (unhide HO3)).mono ?_
        rintro e w4 ⟨v4, rfl, ho4, hb4⟩
        have HO4 := hide ho4
        have HK4 := hide ((unhide HK3).trans hb4)
        have HX4 := hide ((unhide HX3).kp hb4)
        clear ho4 hb4 hc3 hx1 hx2 HX3 HK3 HO3
        go_wp2
        go_roundw
        case rel => exact ⟨i + 1, g ++ one false ni.data.toList vi.data.toList, hlt, by go_num, hide (by have := unhide HO4; simpa [one, quoted] using this), HK4, HX4, HE2⟩
        case measure => simp [RowKit.intOf]; omega
    · go_wp2
      go_ret
      refine ⟨_, rfl, ?_, unhide HK⟩
      have e := unhide HE
      rw [prms_end names vals i (by omega)] at e
      have e0 : ∀ f, rps f [] = [] := by intro f; rfl
      rw [e0, List.append_nil] at e
      unfold chal
      rw [e, ← List.append_assoc]; exact unhide HO
end Go.Proofs.Qxb6000905aDoor
