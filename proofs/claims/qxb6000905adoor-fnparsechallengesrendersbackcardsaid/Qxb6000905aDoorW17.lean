/-
  WALKS of seat b6000905aD: ZZParseChallenges.
-/
import Derived.Test.Qxb6000905aDoorW16
set_option linter.unusedVariables false
namespace Go.Proofs.Qxb6000905aDoor
open Go.RowKit Go.Lib

theorem Tryd.info35 : (Tryd.prog.info? 35).map (fun i => (i.zero, i.size, i.bytes)) = some (some (.agg #[.string ⟨#[]⟩, .map none]), 2, 24) := by kernel_rfl
/-- One challenge in a row. -/
theorem Chs.at {w : World} {M : Nat} : ∀ {cs : List Ch} {xs : List Value}, Chs w M cs xs → ∀ (i : Nat) (h : i < cs.length), ∃ (t : ByteArray) (m n : Nat), xs[i * 2]? = some (.string t) ∧ xs[i * 2 + 1]? = some (.map (some m)) ∧ t.data.toList = toLowerA cs[i].1 ∧ MapAt w m n cs[i].2
  | [], xs, h, i, hi => by cases hi
  | c :: cs, xs, h, 0, hi => by
    obtain ⟨t, m, n, r, rfl, ht, hm, hmap, hr⟩ := h
    exact ⟨t, m, n, rfl, rfl, ht, hmap⟩
  | c :: cs, xs, h, i + 1, hi => by
    obtain ⟨t, m, n, r, rfl, ht, hm, hmap, hr⟩ := h
    obtain ⟨t', m', n', h1, h2, h3, h4⟩ := Chs.at hr i (by simp at hi; omega)
    refine ⟨t', m', n', ?_, ?_, h3, h4⟩
    · rw [show (i + 1) * 2 = i * 2 + 2 by omega]; exact h1
    · rw [show (i + 1) * 2 + 1 = i * 2 + 1 + 2 by omega]; exact h2
theorem add_at (g j : Nat) : (⟨g, 0, none⟩ : Addr).add j = ⟨g, j, none⟩ := by unfold Addr.add; split <;> simp_all
def zF (j : Nat) : Value := if j % 2 = 0 then .string ⟨#[]⟩ else .map none
/-- The row of the challenges that are copied. -/
def cF (xs : List Value) (i j : Nat) : Value := if j < i * 2 then xs.getD j (.map none) else zF j
theorem cF_start (w : World) (xs : List Value) (n : Nat) : (w.alloc (.cells (madeCells #[.string ⟨#[]⟩, .map none] (n * 2)) 35)).rowIs w.heap.size 35 (n * 2) (cF xs 0) := by
  refine ⟨_, heap_alloc_new _ _, size_madeCells _ _, fun i hi => ?_⟩
  unfold madeCells cF zF
  simp [hi]
  have h3 : i % 2 = 0 ∨ i % 2 = 1 := by omega
  rcases h3 with h | h <;> simp [h]
theorem cF_step {w : World} {g n i : Nat} {xs : List Value} {a b : Value} (h : w.rowIs g 35 (n * 2) (cF xs i)) (ha : xs[i * 2]? = some a) (hb : xs[i * 2 + 1]? = some b) :
    ((w.setCell ⟨g, i * 2, none⟩ a).setCell ⟨g, i * 2 + 1, none⟩ b).rowIs g 35 (n * 2) (cF xs (i + 1)) := by
  refine ((h.set (i * 2) _).set (i * 2 + 1) _).congr fun j hj => ?_
  unfold cF
  by_cases h1 : j = i * 2 + 1
  · rw [if_pos h1, if_pos (by omega), h1, List.getD_eq_getElem?_getD, hb]; rfl
  · rw [if_neg h1]
    by_cases h2 : j = i * 2
    · rw [if_pos h2, if_pos (by omega), h2, List.getD_eq_getElem?_getD, ha]; rfl
    · rw [if_neg h2]
      by_cases h3 : j < i * 2
      · rw [if_pos h3, if_pos (by omega)]
      · rw [if_neg h3, if_neg (by omega)]

/-- The challenges as ZZParseChallenges gives them. -/
def OutC (cs : List Ch) (e : Ending) (w' : World) : Prop := ∃ g c xs M, e = .returned (.slice (some ⟨g, 0, none⟩) cs.length c) ∧ Chs w' M cs xs ∧ ∀ j v, xs[j]? = some v → w'.cell? ⟨g, j, none⟩ = some v
theorem Chs.len {w : World} {M : Nat} : ∀ {cs : List Ch} {xs : List Value}, Chs w M cs xs → xs.length = cs.length * 2
  | [], xs, h => by
    have h' : xs = [] := h
    rw [h']; rfl
  | c :: cs, xs, h => by
    obtain ⟨t, m, n, r, rfl, ht, hm, hmap, hr⟩ := h
    have := Chs.len hr
    simp [this]; omega

set_option maxHeartbeats 4000000 in
set_option maxRecDepth 100000 in
theorem zzparse_any (p : Option Addr) (cap : Nat) (Css : List (List RC)) (w : World) (hn : Css.length ≤ 1048576) (hG : ∀ cs ∈ Css, GoodCQ cs) (hz : ∀ cs ∈ Css, (hdr cs).length ≤ 1000000000) (hm : Css.flatten.length ≤ 1048576) (hV : ViewS w p (Css.map fun cs => bstr (hdr cs))) :
    Calls Tryd.prog 11 #[.slice p Css.length cap] w fun e w' => OutC (Css.flatten.map pch) e w' ∧ Below w.heap.size w w' := by
  obtain ⟨i0, hi, hz0, hz1, hz2⟩ := info_parts Tryd.info35
  have HC := hide (parse_vals p cap Css w hn hG hz hm hV)
  clear hG hz hV
  have hm2 : (Css.flatten.map pch).length ≤ 1048576 := by rw [List.length_map]; exact hm
  generalize Css.flatten.map pch = cs at *
  clear hm
  go_enter Tryd.func11, Tryd.ntmps11
  go_wp2_with fail
  refine (unhide HC).mono ?_
  rintro e x ⟨v, xs, M, rfl, hown, hch, hb⟩
  have HO := hide hown
  have HCh := hide hch
  have HB := hide hb
  have hv : ∃ q c, v = .slice q cs.length c ∧ Hid (∀ j u, xs[j]? = some u → ∃ g, q = some ⟨g, 0, none⟩ ∧ x.cell? ⟨g, j, none⟩ = some u) := by
    rcases hown.2 with ⟨rfl, h0⟩ | ⟨g, cap, cur, rfl, rest⟩
    · refine ⟨none, 0, by rw [h0], hide fun j u hj => ?_⟩
      have := hch.len
      rw [h0] at this
      rw [List.eq_nil_of_length_eq_zero this] at hj
      cases hj
    · exact ⟨_, _, rfl, hide fun j u hj => ⟨g, rfl, by rw [← add_at]; exact World.ownsRow.cells hown (g := g) rfl j u hj⟩⟩
  obtain ⟨q, c, rfl, HQ⟩ := hv
  clear hown hch hb HC HO
  go_wp2_with (at_make; refine wpList_make_rows _ rfl _ _ 31 rfl 35 i0 _ Tryd.underlying31 hi hz0 _ _ cs.length rfl rfl (by rw [hz2]; omega) (by omega) ?_; rw [hz1])
  go_loopw [5] (fun y wr => ∃ i : Nat, i ≤ cs.length ∧ y = .int .i64 i ∧ Hid (wr.rowIs x.heap.size 35 (cs.length * 2) (cF xs i)) ∧ Hid (Below x.heap.size x wr)) (fun y _ => cs.length - (RowKit.intOf y).toNat)
  case atStart => exact ⟨0, Nat.zero_le _, rfl, hide (cF_start x xs _), hide ((Below.refl _ _).alloc (Nat.le_refl _) _)⟩
  case round =>
    obtain ⟨i, hin, rfl, HR, HX⟩ := hrel
    by_cases hlt : i < cs.length
    · obtain ⟨t, m, n, x0, x1, _, _⟩ := (unhide HCh).at i hlt
      obtain ⟨g, rfl, y0⟩ := unhide HQ _ _ x0
      obtain ⟨g', hg', y1⟩ := unhide HQ _ _ x1
      simp only [Option.some.injEq, Addr.mk.injEq, and_true] at hg'
      subst hg'
      have HX0 := hide x0
      have HX1 := hide x1
      have CC : Hid (∀ W, Below x.heap.size x W → W.cell? ⟨g, i * 2, none⟩ = some (.string t) ∧ W.cell? ⟨g, i * 2 + 1, none⟩ = some (.map (some m))) := hide fun W h =>
        ⟨(h.cell (p := ⟨g, i * 2, none⟩) (World.block_lt_of_cell? x _ y0)).trans y0, (h.cell (p := ⟨g, i * 2 + 1, none⟩) (World.block_lt_of_cell? x _ y1)).trans y1⟩
      have HBd := hide ((unhide HX).drew)
      have HRd := hide ((unhide HR).drew)
      have e0 := (unhide HR).cell (i := i * 2) (by omega)
      have e1 := (unhide HR).cell (i := i * 2 + 1) (by omega)
      have k0 := (unhide HR).frozen (i * 2)
      have k1 := (unhide HR).frozen (i * 2 + 1)
      have d0 := (unhide HRd).cell (i := i * 2) (by omega)
      have d1 := (unhide HRd).cell (i := i * 2 + 1) (by omega)
      have f0 := (unhide HRd).frozen (i * 2)
      have f1 := (unhide HRd).frozen (i * 2 + 1)
      clear x0 x1 y0 y1
      go_wp2_with fail
      go_region_held3 (fun w' => w'.cell? ⟨g, i * 2, none⟩ = some (.string t) ∧ w'.cell? ⟨g, i * 2 + 1, none⟩ = some (.map (some m)))
        (first | exact unhide CC _ (unhide HBd) | exact unhide CC _ (((unhide HBd).setCell (Nat.le_refl _) _).setCell (Nat.le_refl _) _))
        (fail)
      clear d0 d1 f0 f1 e0 e1 k0 k1
      have HR3 := hide (World.rowIs.drew (cF_step (unhide HR) (unhide HX0) (unhide HX1)))
      have E3 := hide (((unhide HX).setCell (Nat.le_refl _) (p := ⟨x.heap.size, i * 2, none⟩) (.string t)).setCell (Nat.le_refl _) (p := ⟨x.heap.size, i * 2 + 1, none⟩) (.map (some m))).drew
      clear HRd HBd CC HR HX
      generalize hx3 : ((wr.setCell ⟨x.heap.size, i * 2, none⟩ (.string t)).setCell ⟨x.heap.size, i * 2 + 1, none⟩ (.map (some m))).drew = x3 at *
      clear hx3
      go_wp2
      go_roundw
      case rel => exact ⟨i + 1, hlt, by go_num, HR3, E3⟩
      case measure => simp [RowKit.intOf]; omega
    · have e : i = cs.length := by omega
      subst e
      go_wp2
      go_ret
      refine ⟨⟨_, _, xs, M, rfl, Chs.kept (below_none (unhide HX)) (fun _ h => by cases h) (unhide HCh), fun j u hj => ?_⟩, (unhide HB).trans ((unhide HX).mono (unhide HB).size)⟩
      have hl := (unhide HCh).len
      have hjl : j < cs.length * 2 := by rw [← hl]; exact (List.getElem?_eq_some_iff.1 hj).1
      rw [(unhide HR).cell hjl]
      unfold cF
      rw [if_pos hjl, List.getD_eq_getElem?_getD, hj]; rfl
end Go.Proofs.Qxb6000905aDoor
