/-
  Plain facts for the law FnFindAfterParse, seat b6000614aD.
-/
import Derived.Test.Qxb6000614aDoorW18
set_option linter.unusedVariables false
namespace Go.Proofs.Qxb6000614aDoor
open Go.RowKit Go.Lib

def chk (ss : List ByteArray) (k : Nat) : List UInt8 × List (List UInt8 × List UInt8 × List UInt8) := ((ss.getD k ⟨#[]⟩).data.toList, [([112], itoaL k, itoaL k)])
def csf (ss : List ByteArray) (n : Nat) : List (List UInt8 × List (List UInt8 × List UInt8 × List UInt8)) := (List.range n).map (chk ss)
theorem csf_succ (ss : List ByteArray) (n : Nat) : csf ss (n + 1) = csf ss n ++ [chk ss n] := by unfold csf; rw [List.range_succ, List.map_append]; rfl
theorem hdr_snoc : ∀ (l : List (List UInt8 × List (List UInt8 × List UInt8 × List UInt8))) (c : List UInt8 × List (List UInt8 × List UInt8 × List UInt8)), l ≠ [] → hdr (l ++ [c]) = hdr l ++ (44 :: 32 :: (c.1 ++ rps true c.2))
  | [], c, h => absurd rfl h
  | [d], c, _ => by simp [hdr]
  | d :: e :: r, c, _ => by
    have ih := hdr_snoc (e :: r) c (by simp)
    show d.1 ++ (rps true d.2 ++ (44 :: 32 :: hdr (e :: r ++ [c]))) = _
    rw [ih]
    simp [hdr]
theorem rps_chk (ss : List ByteArray) (k : Nat) : (chk ss k).1 ++ rps true (chk ss k).2 = (ss.getD k ⟨#[]⟩).data.toList ++ ([32, 112, 61] ++ itoaL k) := by
  simp [chk, rps]
theorem hdr_zero (ss : List ByteArray) : hdr (csf ss 0) = [] := rfl
theorem hdr_one (ss : List ByteArray) : hdr (csf ss 1) = (ss.getD 0 ⟨#[]⟩).data.toList ++ ([32, 112, 61] ++ itoaL 0) := rps_chk ss 0
theorem hdr_more (ss : List ByteArray) (n : Nat) (h : n ≠ 0) : hdr (csf ss (n + 1)) = hdr (csf ss n) ++ ([44, 32] ++ ((ss.getD n ⟨#[]⟩).data.toList ++ ([32, 112, 61] ++ itoaL n))) := by
  rw [csf_succ, hdr_snoc _ _ (by unfold csf; simp; exact h), rps_chk]; rfl
theorem digs_len : ∀ (f n : Nat), (digs f n).length ≤ f
  | 0, n => Nat.le_refl _
  | f + 1, n => by
    by_cases h : n = 0
    · subst h; rw [digs_zero]; exact Nat.zero_le _
    · rw [digs_step f n h, List.length_append]
      have := digs_len f (n / 10)
      simp; omega
theorem itoaL_len (n : Nat) : (itoaL n).length ≤ 24 := by
  unfold itoaL
  split
  · simp
  · exact digs_len 24 n
theorem prs_csf (ss : List ByteArray) (h : ∀ t ∈ ss, Token t.data.toList) : prs (hdr (csf ss ss.length)) = (csf ss ss.length).map fun c => (c.1, vals c.2) := by
  have hg : ∀ k, k < ss.length → Token (chk ss k).1 ∧ Good (chk ss k).2 := by
    intro k hk
    constructor
    · have e : ss.getD k ⟨#[]⟩ = ss[k] := getD_at ss _ k hk
      unfold chk
      simp only
      rw [e]; exact h _ (List.getElem_mem hk)
    · intro x hx
      unfold chk at hx
      simp only [List.mem_singleton] at hx
      subst hx
      exact ⟨⟨by simp, by intro c hc; rw [List.mem_singleton.1 hc]; decide⟩, itoaL_VT k⟩
  have hG : GoodC (csf ss ss.length) := by
    intro c hc
    unfold csf at hc
    obtain ⟨k, hk, rfl⟩ := List.mem_map.1 hc
    exact hg k (List.mem_range.1 hk)
  refine prs_hdr _ hG _ ?_
  cases hn : ss.length with
  | zero => rfl
  | succ n =>
    have h0 : csf ss (n + 1) = chk ss 0 :: (List.range n).map (fun k => chk ss (k + 1)) := by
      unfold csf
      rw [List.range_succ_eq_map, List.map_cons, List.map_map]; rfl
    rw [h0]
    have ht := (hg 0 (by omega)).1
    cases (List.range n).map (fun k => chk ss (k + 1)) with
    | nil => exact drop_none isSep _ (fun c hc => (tok_not c (tok_head ht _ c hc)).2.1)
    | cons d r => exact drop_none isSep _ (fun c hc => (tok_not c (tok_head ht _ c hc)).2.1)
/-- What the parser gives. -/
def pcs (ss : List ByteArray) : List Ch := (csf ss ss.length).map fun c => (c.1, vals c.2)
theorem pcs_len (ss : List ByteArray) : (pcs ss).length = ss.length := by unfold pcs csf; simp
theorem pcs_at (ss : List ByteArray) (k : Nat) (h : k < ss.length) : (pcs ss).getD k ([], []) = (ss[k].data.toList, [([112], itoaL k)]) := by
  have hl : k < (pcs ss).length := by rw [pcs_len]; exact h
  rw [getD_at _ _ k hl]
  unfold pcs csf
  simp [chk, vals, h]

theorem Chs.at_ {w : World} {M : Nat} : ∀ {cs : List Ch} {xs : List Value}, Chs w M cs xs → ∀ j, j < cs.length → ∃ (t : ByteArray) (m q : Nat), xs[j * 2]? = some (.string t) ∧ xs[j * 2 + 1]? = some (.map (some m)) ∧ t.data.toList = toLowerA (cs.getD j ([], [])).1 ∧ MapAt w m q (cs.getD j ([], [])).2
  | c :: cs, xs, h, j, hj => by
    obtain ⟨t, m, q, r, rfl, ht, _, hm, hr⟩ := h
    cases j with
    | zero => exact ⟨t, m, q, rfl, rfl, ht, hm⟩
    | succ j =>
      obtain ⟨t', m', q', h1, h2, h3, h4⟩ := Chs.at_ hr j (by simpa using hj)
      refine ⟨t', m', q', ?_, ?_, by simpa using h3, by simpa using h4⟩
      · rw [show (j + 1) * 2 = j * 2 + 1 + 1 by omega]; simpa using h1
      · rw [show (j + 1) * 2 + 1 = (j * 2 + 1) + 1 + 1 by omega]; simpa using h2
def mapOf (xs : List Value) (j : Nat) : Nat := match xs[j * 2 + 1]? with | some (.map (some m)) => m | _ => 0
/-- The row of challenges that the parser hands back. -/
theorem chs_row {w : World} {B M : Nat} {v : Value} {xs : List Value} {ss : List ByteArray} (h : w.ownsRow B 35 2 v (pcs ss).length xs) (hc : Chs w M (pcs ss) xs) :
    ∃ p g cap, v = .slice p ss.length cap ∧ (0 < ss.length → p = some ⟨g, 0, none⟩) ∧ RowC w g ss.length (fun j => (lows ss).getD j ⟨#[]⟩) (mapOf xs) ∧ ∀ j, j < ss.length → ∃ q, MapAt w (mapOf xs j) q [([112], itoaL j)] := by
  have hat : ∀ j, j < ss.length → ∃ q, xs[j * 2]? = some (.string ((lows ss).getD j ⟨#[]⟩)) ∧ xs[j * 2 + 1]? = some (.map (some (mapOf xs j))) ∧ MapAt w (mapOf xs j) q [([112], itoaL j)] := by
    intro j hj
    obtain ⟨t, m, q, h1, h2, h3, h4⟩ := Chs.at_ hc j (by rw [pcs_len]; exact hj)
    rw [pcs_at ss j hj] at h3 h4
    have e : mapOf xs j = m := by unfold mapOf; rw [h2]
    have et : t = (lows ss).getD j ⟨#[]⟩ := by
      refine WideShapes.bytes_inj ?_
      rw [lows_at ss j hj, h3]
    rw [e, ← et]
    exact ⟨q, h1, h2, h4⟩
  have hm : ∀ j, j < ss.length → ∃ q, MapAt w (mapOf xs j) q [([112], itoaL j)] := fun j hj => let ⟨q, _, _, h⟩ := hat j hj; ⟨q, h⟩
  rw [pcs_len] at h
  rcases h.2 with ⟨rfl, h0⟩ | ⟨g, cap, cur, rfl, rest⟩
  · exact ⟨none, 0, 0, by rw [h0], fun h' => by omega, fun j hj => by omega, hm⟩
  · refine ⟨some ⟨g, 0, none⟩, g, cap, rfl, fun _ => rfl, fun j hj => ?_, hm⟩
    obtain ⟨q, h1, h2, _⟩ := hat j hj
    have hadd : ∀ j, (⟨g, 0, none⟩ : Addr).add j = ⟨g, j, none⟩ := by intro j; unfold Addr.add; split <;> simp_all
    have r1 := World.ownsRow.cells h (g := g) rfl _ _ h1
    have r2 := World.ownsRow.cells h (g := g) rfl _ _ h2
    rw [hadd] at r1 r2
    exact ⟨r1, r2⟩
/-- One parameter's map. -/
theorem pmap_one (v : List UInt8) : Maps.has (pmap [([112], v)]) (.string [112]) = true ∧ (pmap [([112], v)]).atKey (.string [112]) (.lit (.string [])) = .lit (.string v) ∧ Maps.size (pmap [([112], v)]) = 1 := by
  have e : pmap [([112], v)] = (DataW.map []).put (.string [112]) (.lit (.string v)) := rfl
  rw [e]
  refine ⟨Maps.has_put_same Maps.isMap_empty (key_str _) _, Maps.atKey_put_same Maps.isMap_empty (key_str _) _ _, ?_⟩
  rw [Maps.size_put Maps.tidy_empty]
  rfl
end Go.Proofs.Qxb6000614aDoor
