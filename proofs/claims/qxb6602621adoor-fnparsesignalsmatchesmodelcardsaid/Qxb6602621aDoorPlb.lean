/-
  THE PLAIN LAYER of seat b6602621aD, second part: the model's trimming; the model's number.
-/
import Derived.Test.Qxb6602621aDoorPlain
namespace Go.Proofs.Qxb6602621aDoor
open Go.Lib

/-! ### trimming, step by step -/
def sL (l : List UInt8) : List UInt8 := stripL l.length l
def sR (l : List UInt8) : List UInt8 := stripR l.length l
theorem sL_nil : sL [] = [] := rfl
theorem sR_nil : sR [] = [] := rfl
theorem sL_stop (l : List UInt8) (h : headSpace l = 0) : sL l = l := by
  unfold sL
  cases hx : l.length with
  | zero => rfl
  | succ k => rw [stripL, if_pos h]
theorem sR_stop (l : List UInt8) (h : tailSpace l = 0) : sR l = l := by
  unfold sR
  cases hx : l.length with
  | zero => rfl
  | succ k => rw [stripR, if_pos h]
theorem sL_step (l : List UInt8) (h : headSpace l ≠ 0) : sL l = sL (l.drop (headSpace l)) := by
  have hle := headSpace_le l
  unfold sL
  cases hx : l.length with
  | zero => omega
  | succ k =>
    rw [stripL, if_neg h]
    exact stripL_fuel _ _ _ (by rw [List.length_drop]; omega) (Nat.le_refl _)
theorem tailSpace_find (l : List UInt8) : tailSpace l = 0 ∨ (∃ q ∈ spaceSeqs, ∃ t, l = t ++ q ∧ tailSpace l = q.length) := by
  unfold tailSpace
  cases h : spaceSeqs.find? (·.isSuffixOf l) with
  | none => exact .inl rfl
  | some q =>
    have h1 := List.find?_some h
    have h2 := List.mem_of_find?_eq_some h
    obtain ⟨t, ht⟩ := List.isSuffixOf_iff_suffix.1 h1
    exact .inr ⟨q, h2, t, ht.symm, by simp⟩
theorem tailSpace_le (l : List UInt8) : tailSpace l ≤ l.length := by
  rcases tailSpace_find l with h | ⟨q, _, t, rfl, e⟩
  · omega
  · rw [e]; simp
theorem sR_step (l : List UInt8) (h : tailSpace l ≠ 0) : sR l = sR (l.take (l.length - tailSpace l)) := by
  have hle := tailSpace_le l
  unfold sR
  cases hx : l.length with
  | zero => omega
  | succ k =>
    rw [stripR, if_neg h, hx]
    exact stripR_fuel _ _ _ (by rw [List.length_take]; omega) (Nat.le_refl _)
theorem trimU_sR (l : List UInt8) : trimSpaceU l = sR (sL l) := by
  unfold trimSpaceU sR sL
  refine stripR_fuel _ _ _ ?_ (Nat.le_refl _)
  rw [stripL_eq]
  exact trimLeftD_le _ _

theorem seq_len : ∀ q ∈ spaceSeqs, q.length = 1 ∨ q.length = 2 ∨ q.length = 3 := by decide

/-- A white-space rune ends x just where one fills its last k bytes. -/
theorem tail_yes (x : List UInt8) (k : Nat) (hk : 0 < k) (hkx : k ≤ x.length) (h : headSpace (x.drop (x.length - k)) = k) : tailSpace x = k := by
  rcases headSpace_find (x.drop (x.length - k)) with h0 | ⟨q, hq, t, e1, e2⟩
  · omega
  · have hl := congrArg List.length e1
    rw [List.length_drop, List.length_append] at hl
    have ht : t = [] := List.eq_nil_of_length_eq_zero (by omega)
    subst ht
    rw [List.append_nil] at e1
    have := tailSpace_seq hq (x.take (x.length - k))
    rw [← e1, List.take_append_drop] at this
    rw [this, List.length_drop]; omega
theorem tail_no (x : List UInt8) (h : ∀ k, 1 ≤ k → k ≤ 3 → k ≤ x.length → headSpace (x.drop (x.length - k)) ≠ k) : tailSpace x = 0 := by
  rcases tailSpace_find x with h0 | ⟨q, hq, t, rfl, e⟩
  · exact h0
  · exfalso
    have hl := seq_len q hq
    refine h q.length (by omega) (by omega) (by simp) ?_
    rw [List.length_append, Nat.add_sub_cancel, List.drop_left]
    have := headSpace_seq hq []
    rwa [List.append_nil] at this

/-! ### the number -/
def hv (c : UInt8) : Nat := (hexD c.toNat).getD 0
theorem hv_lt (c : UInt8) : hv c < 16 := by
  unfold hv
  cases h : hexD c.toNat with
  | none => simp
  | some d => simpa using hexD_lt h
def AllHex (l : List UInt8) : Prop := ∀ c ∈ l, hexD c.toNat = some (hv c)
theorem hexD_hv {c : UInt8} (h : hexD c.toNat ≠ none) : hexD c.toNat = some (hv c) := by
  unfold hv
  cases hx : hexD c.toNat with
  | none => exact absurd hx h
  | some d => rfl
def val (a : Nat) (l : List UInt8) : Nat := l.foldl (fun a c => a * 16 + hv c) a
theorem val_snoc (a : Nat) (l : List UInt8) (c : UInt8) : val a (l ++ [c]) = val a l * 16 + hv c := by simp [val]
theorem val_lt : ∀ (l : List UInt8) (a : Nat), val a l < (a + 1) * 16 ^ l.length
  | [], a => by simp [val]
  | c :: r, a => by
    have h := val_lt r (a * 16 + hv c)
    have hc := hv_lt c
    have e : val a (c :: r) = val (a * 16 + hv c) r := rfl
    rw [e, List.length_cons, Nat.pow_succ, Nat.mul_comm (16 ^ r.length) 16, ← Nat.mul_assoc]
    exact Nat.lt_of_lt_of_le h (Nat.mul_le_mul_right _ (by omega))

theorem hexP_bad : ∀ (l : List UInt8) (acc : Nat), (∃ c ∈ l, hexD c.toNat = none) → ∀ u, hexP acc l ≠ some (some u)
  | [], _, h, _ => by obtain ⟨c, hc, _⟩ := h; cases hc
  | c :: r, acc, h, u => by
    unfold hexP
    split
    · intro h; cases h
    · rename_i d hd
      split
      · intro h; cases h
      · refine hexP_bad r _ ?_ u
        obtain ⟨x, hx, hn⟩ := h
        rcases List.mem_cons.1 hx with rfl | hx
        · rw [hn] at hd; cases hd
        · exact ⟨x, hx, hn⟩

theorem hexP_val : ∀ (l : List UInt8) (acc : Nat), AllHex l → (acc + 1) * 16 ^ l.length ≤ 18446744073709551616 → hexP acc l = some (some (val acc l))
  | [], acc, _, _ => rfl
  | c :: r, acc, ha, h => by
    have hp : 1 ≤ 16 ^ r.length := Nat.pow_pos (by decide)
    have hc := hv_lt c
    rw [List.length_cons, Nat.pow_succ, Nat.mul_comm (16 ^ r.length) 16, ← Nat.mul_assoc] at h
    have hacc : ¬ 1152921504606846976 ≤ acc := fun hge => by
      have h2 : (1152921504606846976 + 1) * 16 ≤ (acc + 1) * 16 * 16 ^ r.length := by
        calc (1152921504606846976 + 1) * 16 ≤ (acc + 1) * 16 := Nat.mul_le_mul_right _ (by omega)
          _ = (acc + 1) * 16 * 1 := by omega
          _ ≤ (acc + 1) * 16 * 16 ^ r.length := Nat.mul_le_mul_left _ hp
      omega
    have hstep : (acc * 16 + hv c + 1) * 16 ^ r.length ≤ 18446744073709551616 := Nat.le_trans (Nat.mul_le_mul_right _ (by omega)) h
    have e : hexP acc (c :: r) = hexP (acc * 16 + hv c) r := by
      rw [hexP, ha c (List.mem_cons_self ..)]
      simp only [if_neg hacc]
    rw [e, hexP_val r _ (fun x hx => ha x (List.mem_cons_of_mem _ hx)) hstep]
    rfl

theorem hexP_far : ∀ (l : List UInt8) (acc j : Nat), AllHex l → 16 ^ j ≤ acc → 15 < j + l.length → j ≤ 15 → hexP acc l = some none
  | [], acc, j, _, _, h, hj => by simp at h; omega
  | c :: r, acc, j, ha, hacc, h, hj => by
    rw [hexP, ha c (List.mem_cons_self ..)]
    by_cases hge : 1152921504606846976 ≤ acc
    · simp only [if_pos hge]
    · simp only [if_neg hge]
      have hj15 : j ≠ 15 := by
        intro e; subst e
        have : (16 : Nat) ^ 15 = 1152921504606846976 := by decide
        omega
      refine hexP_far r (acc * 16 + hv c) (j + 1) (fun x hx => ha x (List.mem_cons_of_mem _ hx)) ?_ (by rw [List.length_cons] at h; omega) (by omega)
      rw [Nat.pow_succ]; omega

/-- Leading zeros do not matter. -/
theorem hexP_zeros (l : List UInt8) : ∀ k, k ≤ l.length → (∀ j, j < k → l.getD j 0 = 48) → hexP 0 l = hexP 0 (l.drop k)
  | 0, _, _ => rfl
  | k + 1, hk, h => by
    rw [hexP_zeros l k (by omega) (fun j hj => h j (by omega))]
    have hlt : k < l.length := by omega
    rw [List.drop_eq_getElem_cons hlt]
    have : l[k] = 48 := by
      have := h k (by omega)
      rwa [List.getD, List.getElem?_eq_getElem hlt] at this
    rw [this]
    rfl

theorem AllHex.drop {l : List UInt8} (h : AllHex l) (k : Nat) : AllHex (l.drop k) := fun c hc => h c (List.mem_of_mem_drop hc)
theorem AllHex.take {l : List UInt8} (h : AllHex l) (k : Nat) : AllHex (l.take k) := fun c hc => h c (List.mem_of_mem_take hc)

theorem hexU_val {l : List UInt8} (h : AllHex l) (h0 : 0 < l.length) (hl : l.length ≤ 16) : hexU l = some (some (val 0 l)) := by
  unfold hexU
  rw [if_neg (List.length_pos_iff.1 h0)]
  refine hexP_val l 0 h ?_
  have : (16 : Nat) ^ l.length ≤ 16 ^ 16 := Nat.pow_le_pow_right (by decide) hl
  have e : (16 : Nat) ^ 16 = 18446744073709551616 := by decide
  omega

/-! ### what the model comes to -/
theorem psig_nil : psig [] = none := rfl
theorem hexU_bad {l : List UInt8} (h : ∃ c ∈ l, hexD c.toNat = none) (u : Nat) : hexU l ≠ some (some u) := by
  unfold hexU
  split
  · intro h; cases h
  · exact hexP_bad l 0 h u
theorem join_none {o : Option (Option Nat)} (h : ∀ u, o ≠ some (some u)) : o.join = none := by
  cases o with
  | none => rfl
  | some x =>
    cases x with
    | none => rfl
    | some u => exact absurd rfl (h u)
theorem psig_bad (l : List UInt8) (h : ∃ c ∈ l, hexD c.toNat = none) : psig l = none := by
  unfold psig
  split
  · obtain ⟨c, hc, hn⟩ := h
    rw [← List.take_append_drop (l.length - 16) l] at hc
    rcases List.mem_append.1 hc with hc | hc
    · split
      · rename_i u hu; exact absurd hu (hexU_bad ⟨c, hc, hn⟩ u)
      · rfl
    · split
      · exact join_none (hexU_bad ⟨c, hc, hn⟩)
      · rfl
  · exact join_none (hexU_bad h)
theorem psig_short (l : List UInt8) (h : AllHex l) (h0 : 0 < l.length) (hl : ¬ 16 < l.length) : psig l = some (val 0 l) := by
  unfold psig
  rw [if_neg hl, hexU_val h h0 (by omega)]; rfl
/-- More than 16 digits; k of the upper ones are zeros; of the rest at most 16 are left. -/
theorem psig_long (l : List UInt8) (h : AllHex l) (hl : 16 < l.length) (k : Nat) (hk : k ≤ l.length - 16) (hz : ∀ j, j < k → l.getD j 0 = 48) (hr : l.length - 16 - k ≤ 16) : psig l = some (val 0 (l.drop (l.length - 16))) := by
  have hlt : (l.take (l.length - 16)).length = l.length - 16 := by rw [List.length_take]; omega
  have e : hexU (l.take (l.length - 16)) = some (some (val 0 ((l.take (l.length - 16)).drop k))) := by
    unfold hexU
    rw [if_neg (List.length_pos_iff.1 (by omega)), hexP_zeros _ k (by omega) (fun j hj => by rw [getD_takeU _ _ _ (by omega)]; exact hz j hj)]
    refine hexP_val _ 0 ((h.take _).drop _) ?_
    have h2 : ((l.take (l.length - 16)).drop k).length ≤ 16 := by rw [List.length_drop, hlt]; exact hr
    have : (16 : Nat) ^ ((l.take (l.length - 16)).drop k).length ≤ 16 ^ 16 := Nat.pow_le_pow_right (by decide) h2
    have e : (16 : Nat) ^ 16 = 18446744073709551616 := by decide
    omega
  unfold psig
  rw [if_pos hl, e]
  show (hexU (l.drop (l.length - 16))).join = _
  rw [hexU_val (h.drop _) (by rw [List.length_drop]; omega) (by rw [List.length_drop]; omega)]; rfl
/-- .. and behind the zeros stands a digit that is none, and more than 16 are left. -/
theorem psig_far (l : List UInt8) (h : AllHex l) (hl : 16 < l.length) (k : Nat) (hk : k < l.length - 16) (hz : ∀ j, j < k → l.getD j 0 = 48) (hnz : l.getD k 0 ≠ 48) (hr : 16 < l.length - 16 - k) : psig l = none := by
  have hlt : (l.take (l.length - 16)).length = l.length - 16 := by rw [List.length_take]; omega
  have hkl : k < (l.take (l.length - 16)).length := by omega
  have e : hexU (l.take (l.length - 16)) = some none := by
    unfold hexU
    rw [if_neg (List.length_pos_iff.1 (by omega)), hexP_zeros _ k (by omega) (fun j hj => by rw [getD_takeU _ _ _ (by omega)]; exact hz j hj)]
    rw [List.drop_eq_getElem_cons hkl]
    have hc : (l.take (l.length - 16))[k] = l.getD k 0 := by
      rw [← getD_takeU l (l.length - 16) k hk, List.getD, List.getElem?_eq_getElem hkl]; rfl
    rw [hc]
    have hx : hexD (l.getD k 0).toNat = some (hv (l.getD k 0)) := h _ (by rw [List.getD, List.getElem?_eq_getElem (show k < l.length by omega)]; exact List.getElem_mem _)
    have hpos : 1 ≤ hv (l.getD k 0) := by
      have hne : (l.getD k 0).toNat ≠ 48 := fun e => hnz (by rw [← UInt8.toNat_inj]; exact e)
      unfold hexD at hx
      repeat' split at hx
      all_goals first | (cases hx; done) | (have := Option.some.inj hx; omega)
    rw [hexP, hx]
    simp only [if_neg (show ¬ 1152921504606846976 ≤ 0 by decide)]
    refine hexP_far _ _ 0 ((h.take _).drop _) (by simpa using hpos) ?_ (by decide)
    rw [List.length_drop, hlt]; omega
  unfold psig
  rw [if_pos hl, e]

theorem or_add (x d : Nat) (h : d < 16) : x * 16 ||| d = x * 16 + d := by
  have := Nat.two_pow_add_eq_or_of_lt (i := 4) h x
  rw [Nat.mul_comm x 16]
  exact this.symm
end Go.Proofs.Qxb6602621aDoor
