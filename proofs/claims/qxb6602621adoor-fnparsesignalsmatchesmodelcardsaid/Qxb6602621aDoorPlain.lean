/-
  THE PLAIN LAYER of seat b6602621aD: hexadecimal digits, the trimmed text, the model of parseSignals. No dump, no walk.
-/
import Derived.Lib.SpaceUEq
namespace Go.Proofs.Qxb6602621aDoor
open Go.Lib

/-- The width of the white-space rune at the head of n bytes c, c1, c2, ..; 0: none. -/
def spW (n c c1 c2 : Nat) : Nat :=
  if c = 32 ∨ (9 ≤ c ∧ c ≤ 13) then 1
  else if c = 194 ∧ 1 < n ∧ (c1 = 133 ∨ c1 = 160) then 2
  else if 2 < n ∧ ((c = 225 ∧ c1 = 154 ∧ c2 = 128) ∨ (c = 226 ∧ c1 = 128 ∧ ((128 ≤ c2 ∧ c2 ≤ 138) ∨ c2 = 168 ∨ c2 = 169 ∨ c2 = 175)) ∨ (c = 226 ∧ c1 = 129 ∧ c2 = 159) ∨ (c = 227 ∧ c1 = 128 ∧ c2 = 128)) then 3
  else 0

theorem spW_le (n c c1 c2 : Nat) : spW n c c1 c2 ≤ 3 := by
  unfold spW
  repeat' split
  all_goals omega

theorem headSpace_spW (l : List UInt8) (hne : l ≠ []) : headSpace l = spW l.length (l.getD 0 0).toNat (l.getD 1 0).toNat (l.getD 2 0).toNat := by
  rw [headSpace_eq l hne, decodeL_N]
  have h0 : (l.getD 0 0).toNat < 256 := UInt8.toNat_lt _
  have h1 : (l.getD 1 0).toNat < 256 := UInt8.toNat_lt _
  have h2 : (l.getD 2 0).toNat < 256 := UInt8.toNat_lt _
  have h3 : (l.getD 3 0).toNat < 256 := UInt8.toNat_lt _
  generalize (l.getD 0 0).toNat = b0 at *
  generalize (l.getD 1 0).toNat = b1 at *
  generalize (l.getD 2 0).toNat = b2 at *
  generalize (l.getD 3 0).toNat = b3 at *
  generalize l.length = n
  split
  · rename_i hs
    have hp := (isSpaceR_iff _).1 hs
    rcases space_bytes n b0 b1 b2 b3 h0 h1 h2 hp with ⟨e, c⟩ | ⟨e, c⟩ | ⟨e, c⟩
    · rw [e]; unfold spW; rw [if_pos (by omega)]
    · rw [e]; unfold spW; rw [if_neg (by omega), if_pos (by omega)]
    · rw [e]; unfold spW; rw [if_neg (by omega), if_neg (by omega), if_pos (by omega)]
  · rename_i hs
    have hp : ¬ IsSpaceP (decodeN n b0 b1 b2 b3).1 := fun h => hs ((isSpaceR_iff _).2 h)
    unfold spW
    by_cases c1 : b0 = 32 ∨ (9 ≤ b0 ∧ b0 ≤ 13)
    · exfalso; apply hp; rw [decodeN_ascii _ _ _ _ _ (by omega)]; unfold IsSpaceP; dsimp only; omega
    · rw [if_neg c1]
      by_cases c2 : b0 = 194 ∧ 1 < n ∧ (b1 = 133 ∨ b1 = 160)
      · exfalso; apply hp; unfold decodeN
        rw [if_neg (by omega), if_pos (by omega), if_pos (by omega)]; unfold IsSpaceP; dsimp only; omega
      · rw [if_neg c2]
        split
        · rename_i c3
          exfalso; apply hp; unfold decodeN
          rw [if_neg (by omega), if_neg (by omega), if_pos (by omega), if_pos (by omega)]; unfold IsSpaceP; dsimp only; omega
        · rfl

/-! ### all white space, as a row of the 25 encodings -/
/-- l is a row of white-space encodings. -/
def Blank (l : List UInt8) : Prop := ∃ qs : List (List UInt8), (∀ q ∈ qs, q ∈ spaceSeqs) ∧ l = qs.flatten

theorem headSpace_find (l : List UInt8) : headSpace l = 0 ∨ (∃ q ∈ spaceSeqs, ∃ t, l = q ++ t ∧ headSpace l = q.length) := by
  unfold headSpace
  cases h : spaceSeqs.find? (·.isPrefixOf l) with
  | none => exact .inl rfl
  | some q =>
    have h1 := List.find?_some h
    have h2 := List.mem_of_find?_eq_some h
    obtain ⟨t, ht⟩ := List.isPrefixOf_iff_prefix.1 h1
    exact .inr ⟨q, h2, t, ht.symm, by simp⟩

theorem headSpace_le (l : List UInt8) : headSpace l ≤ l.length := by
  rcases headSpace_find l with h | ⟨q, _, t, rfl, e⟩
  · omega
  · rw [e]; simp

theorem seq_ne : ∀ q ∈ spaceSeqs, q ≠ [] := by decide
theorem seq_pos {q : List UInt8} (h : q ∈ spaceSeqs) : 0 < q.length := List.length_pos_iff.2 (seq_ne q h)

theorem headSpace_seq {q : List UInt8} (hq : q ∈ spaceSeqs) (t : List UInt8) : headSpace (q ++ t) = q.length := by
  have hne : q ++ t ≠ [] := fun h => seq_ne q hq (List.append_eq_nil_iff.1 h).1
  rw [headSpace_eq _ hne, (seq_decodes q hq t).1, (seq_decodes q hq t).2]; rfl

theorem tailSpace_seq {q : List UInt8} (hq : q ∈ spaceSeqs) (t : List UInt8) : tailSpace (t ++ q) = q.length := by
  have hne : t ++ q ≠ [] := fun h => seq_ne q hq (List.append_eq_nil_iff.1 h).2
  rw [tailSpace_eq _ hne, (seq_decodes_last q hq t).1, (seq_decodes_last q hq t).2]; rfl

theorem Blank.nil : Blank [] := ⟨[], by simp, rfl⟩
theorem Blank.snoc {l q : List UInt8} (h : Blank l) (hq : q ∈ spaceSeqs) : Blank (l ++ q) := by
  obtain ⟨qs, h1, rfl⟩ := h
  exact ⟨qs ++ [q], by intro x hx; rcases List.mem_append.1 hx with hx | hx; exact h1 x hx; simp at hx; subst hx; exact hq, by simp⟩

theorem stripL_fuel : ∀ (f g : Nat) (l : List UInt8), l.length ≤ f → l.length ≤ g → stripL f l = stripL g l := by
  intro f g l hf hg
  rw [stripL_eq, stripL_eq]
  exact trimLeftD_fuel f g l hf hg
theorem stripR_fuel : ∀ (f g : Nat) (l : List UInt8), l.length ≤ f → l.length ≤ g → stripR f l = stripR g l := by
  intro f g l hf hg
  rw [stripR_eq, stripR_eq]
  exact trimRightD_fuel f g l hf hg

theorem stripL_blank (qs : List (List UInt8)) : (∀ q ∈ qs, q ∈ spaceSeqs) → ∀ (m : List UInt8) (f : Nat), (qs.flatten ++ m).length ≤ f → stripL f (qs.flatten ++ m) = stripL m.length m := by
  induction qs with
  | nil => intro _ m f hf; simp at hf ⊢; exact stripL_fuel _ _ _ hf (Nat.le_refl _)
  | cons q qs ih =>
    intro h m f hf
    have hq := h q (List.mem_cons_self ..)
    have hp := seq_pos hq
    have hlen : (q :: qs).flatten ++ m = q ++ (qs.flatten ++ m) := by simp
    rw [hlen] at hf ⊢
    rw [List.length_append] at hf
    obtain ⟨f', rfl⟩ : ∃ f', f = f' + 1 := ⟨f - 1, by omega⟩
    have e : stripL (f' + 1) (q ++ (qs.flatten ++ m)) = stripL f' (qs.flatten ++ m) := by
      rw [stripL, headSpace_seq hq, if_neg (by omega), List.drop_left]
    rw [e]
    exact ih (fun x hx => h x (List.mem_cons_of_mem _ hx)) m f' (by omega)

theorem stripR_blank (m : List UInt8) : ∀ (qs : List (List UInt8)), (∀ q ∈ qs, q ∈ spaceSeqs) → ∀ (f : Nat), (m ++ qs.reverse.flatten).length ≤ f → stripR f (m ++ qs.reverse.flatten) = stripR m.length m := by
  intro qs
  induction qs with
  | nil => intro _ f hf; simp at hf ⊢; exact stripR_fuel _ _ _ hf (Nat.le_refl _)
  | cons q qs ih =>
    intro h f hf
    have hq := h q (List.mem_cons_self ..)
    have hp := seq_pos hq
    have hlen : m ++ (q :: qs).reverse.flatten = (m ++ qs.reverse.flatten) ++ q := by simp
    rw [hlen] at hf ⊢
    rw [List.length_append] at hf
    obtain ⟨f', rfl⟩ : ∃ f', f = f' + 1 := ⟨f - 1, by omega⟩
    have e : stripR (f' + 1) ((m ++ qs.reverse.flatten) ++ q) = stripR f' (m ++ qs.reverse.flatten) := by
      rw [stripR, tailSpace_seq hq, if_neg (by omega), List.length_append, Nat.add_sub_cancel, List.take_left]
    rw [e]
    exact ih (fun x hx => h x (List.mem_cons_of_mem _ hx)) f' (by omega)

/-- A text that neither begins nor ends with white space, wrapped in white space: trimmed it is itself. -/
theorem trim_wrapped (b m a : List UInt8) (hb : Blank b) (ha : Blank a) (h0 : headSpace (m ++ a) = 0) (h1 : tailSpace m = 0) : trimSpaceU (b ++ m ++ a) = m := by
  obtain ⟨qb, hqb, rfl⟩ := hb
  obtain ⟨qa, hqa, rfl⟩ := ha
  unfold trimSpaceU
  rw [List.append_assoc, stripL_blank qb hqb (m ++ qa.flatten) _ (Nat.le_refl _)]
  have e1 : stripL (m ++ qa.flatten).length (m ++ qa.flatten) = m ++ qa.flatten := by
    generalize m ++ qa.flatten = x at h0
    cases hx : x.length with
    | zero => rfl
    | succ k => unfold stripL; rw [if_pos h0]
  rw [e1]
  have e2 := stripR_blank m qa.reverse (fun q hq => hqa q (List.mem_reverse.1 hq)) (qb.flatten ++ (m ++ qa.flatten)).length (by simp)
  rw [List.reverse_reverse] at e2
  rw [e2]
  cases hx : m.length with
  | zero => rfl
  | succ k => unfold stripR; rw [if_pos h1]

/-! ### hexadecimal -/
/-- The value of a hexadecimal digit. -/
def hexD (c : Nat) : Option Nat :=
  if 48 ≤ c ∧ c ≤ 57 then some (c - 48) else if 97 ≤ c ∧ c ≤ 102 then some (c - 87) else if 65 ≤ c ∧ c ≤ 70 then some (c - 55) else none
theorem hexD_lt {c d : Nat} (h : hexD c = some d) : d < 16 := by
  unfold hexD at h
  repeat' split at h
  all_goals first | (cases h; omega) | cases h

/-- strconv's loop at base 16 and 64 bits: none: a byte that is no digit; some none: out of range. -/
def hexP : Nat → List UInt8 → Option (Option Nat)
  | acc, [] => some (some acc)
  | acc, c :: r => match hexD c.toNat with
    | none => none
    | some d => if 1152921504606846976 ≤ acc then some none else hexP (acc * 16 + d) r
/-- strconv.ParseUint(s, 16, 64). -/
def hexU (l : List UInt8) : Option (Option Nat) := if l = [] then none else hexP 0 l

theorem hexP_lt : ∀ (l : List UInt8) (acc : Nat), acc < 18446744073709551616 → ∀ u, hexP acc l = some (some u) → u < 18446744073709551616
  | [], acc, h, u, e => by simp [hexP] at e; omega
  | c :: r, acc, h, u, e => by
    unfold hexP at e
    split at e
    · cases e
    · rename_i d hd
      have := hexD_lt hd
      split at e
      · cases e
      · exact hexP_lt r _ (by omega) u e

/-- What parseSignals answers, of the trimmed text. -/
def psig (l : List UInt8) : Option Nat :=
  if 16 < l.length then (match hexU (l.take (l.length - 16)) with
    | some (some _) => (hexU (l.drop (l.length - 16))).join
    | _ => none)
  else (hexU l).join

/-! ### the sixteen digits of a number -/
def digC (up : Bool) (d : Nat) : UInt8 := UInt8.ofNat (if d < 10 then 48 + d else if up then 55 + d else 87 + d)
/-- The last k hexadecimal digits of x, the highest first. -/
def hexK (up : Bool) (x : Nat) : Nat → List UInt8
  | 0 => []
  | k + 1 => digC up (x / 16 ^ k % 16) :: hexK up x k
theorem hexK_length (up : Bool) (x : Nat) : ∀ k, (hexK up x k).length = k
  | 0 => rfl
  | k + 1 => by simp [hexK, hexK_length up x k]
theorem digC_nat (up : Bool) (d : Nat) (h : d < 16) : (digC up d).toNat = if d < 10 then 48 + d else if up then 55 + d else 87 + d := by
  unfold digC
  rw [UInt8.toNat_ofNat']
  cases up <;> simp <;> split <;> omega
theorem hexD_digC (up : Bool) (d : Nat) (h : d < 16) : hexD (digC up d).toNat = some d := by
  rw [digC_nat up d h]
  unfold hexD
  cases up <;> simp <;> repeat' split
  all_goals first | omega | (congr 1; omega) | (simp; omega)

theorem hexP_hexK (up : Bool) (x : Nat) : ∀ (k acc : Nat), (acc + 1) * 16 ^ k ≤ 18446744073709551616 → hexP acc (hexK up x k) = some (some (acc * 16 ^ k + x % 16 ^ k))
  | 0, acc, _ => by simp [hexP, hexK, Nat.mod_one]
  | k + 1, acc, h => by
    have hd : x / 16 ^ k % 16 < 16 := Nat.mod_lt _ (by decide)
    have hp : 1 ≤ 16 ^ k := Nat.pow_pos (by decide)
    have hacc : ¬ 1152921504606846976 ≤ acc := fun hc => by
      have h2 : (1152921504606846976 + 1) * 16 ≤ (acc + 1) * 16 ^ (k + 1) := by
        rw [Nat.pow_succ, Nat.mul_comm (16 ^ k) 16, ← Nat.mul_assoc]
        calc (1152921504606846976 + 1) * 16 ≤ (acc + 1) * 16 := Nat.mul_le_mul_right _ (by omega)
          _ = (acc + 1) * 16 * 1 := by omega
          _ ≤ (acc + 1) * 16 * 16 ^ k := Nat.mul_le_mul_left _ hp
      omega
    have hstep : (acc * 16 + x / 16 ^ k % 16 + 1) * 16 ^ k ≤ 18446744073709551616 := by
      refine Nat.le_trans ?_ h
      rw [Nat.pow_succ, Nat.mul_comm (16 ^ k) 16, ← Nat.mul_assoc]
      exact Nat.mul_le_mul_right _ (by omega)
    have e : hexP acc (hexK up x (k + 1)) = hexP (acc * 16 + x / 16 ^ k % 16) (hexK up x k) := by
      show hexP acc (digC up (x / 16 ^ k % 16) :: hexK up x k) = _
      rw [hexP, hexD_digC up _ hd]
      simp only [if_neg hacc]
    rw [e, hexP_hexK up x k _ hstep]
    have h3 : x % 16 ^ (k + 1) = x % 16 ^ k + 16 ^ k * (x / 16 ^ k % 16) := by rw [Nat.pow_succ, Nat.mod_mul]
    rw [h3, Nat.pow_succ]
    congr 2
    rw [Nat.add_mul, Nat.mul_assoc acc 16 (16 ^ k), Nat.mul_comm 16 (16 ^ k), Nat.mul_comm (x / 16 ^ k % 16)]
    omega

theorem hexU_hexK (up : Bool) (x : Nat) (hx : x < 18446744073709551616) : hexU (hexK up x 16) = some (some x) := by
  unfold hexU
  rw [if_neg (fun h => by have := congrArg List.length h; rw [hexK_length] at this; cases this), hexP_hexK up x 16 0 (by decide)]
  rw [Nat.zero_mul, Nat.zero_add, Nat.mod_eq_of_lt (by omega)]

theorem psig_one (up : Bool) (x : Nat) (hx : x < 18446744073709551616) : psig (hexK up x 16) = some x := by
  unfold psig
  rw [hexK_length, if_neg (by decide), hexU_hexK up x hx]; rfl
theorem psig_two (up : Bool) (x y : Nat) (hx : x < 18446744073709551616) (hy : y < 18446744073709551616) : psig (hexK up y 16 ++ hexK up x 16) = some x := by
  unfold psig
  have hl : (hexK up y 16 ++ hexK up x 16).length = 32 := by rw [List.length_append, hexK_length, hexK_length]
  have ht : (hexK up y 16 ++ hexK up x 16).take 16 = hexK up y 16 := List.take_left' (hexK_length up y 16)
  have hd : (hexK up y 16 ++ hexK up x 16).drop 16 = hexK up x 16 := List.drop_left' (hexK_length up y 16)
  rw [hl, if_pos (by decide), show 32 - 16 = 16 from rfl, ht, hd, hexU_hexK up y hy, hexU_hexK up x hx]; rfl

/-! ### digits are no white space -/
theorem digC_noSp (up : Bool) (d : Nat) (h : d < 16) : (digC up d).toNat < 128 ∧ isSpaceR (digC up d).toNat = false := by
  rw [digC_nat up d h]
  have : ∀ c : Nat, 48 ≤ c → c < 128 → isSpaceR c = false := fun c h1 h2 => isSpaceR_false (by unfold IsSpaceP; omega)
  cases up <;> simp <;> split <;> exact ⟨by omega, this _ (by omega) (by omega)⟩
theorem head_dig (up : Bool) (d : Nat) (h : d < 16) (t : List UInt8) : headSpace (digC up d :: t) = 0 := by
  rw [headSpace_eq _ (by simp), decodeL_ascii _ _ (digC_noSp up d h).1, (digC_noSp up d h).2]; rfl
theorem tail_dig (up : Bool) (d : Nat) (h : d < 16) (t : List UInt8) : tailSpace (t ++ [digC up d]) = 0 := by
  rw [tailSpace_eq _ (by simp), decodeLastL_ascii _ _ (digC_noSp up d h).1, (digC_noSp up d h).2]; rfl
theorem hexK_last (up : Bool) (x : Nat) : ∀ k, 0 < k → ∃ t, hexK up x k = t ++ [digC up (x % 16)]
  | 0, h => absurd h (Nat.lt_irrefl _)
  | 1, _ => ⟨[], by simp [hexK, Nat.div_one]⟩
  | k + 2, _ => by
    obtain ⟨t, ht⟩ := hexK_last up x (k + 1) (by omega)
    exact ⟨digC up (x / 16 ^ (k + 1) % 16) :: t, by rw [hexK, ht]; rfl⟩

/-- The text that the law lays: trimmed, it is the digits. -/
theorem trim_one (up : Bool) (x : Nat) (b a : List UInt8) (hb : Blank b) (ha : Blank a) : trimSpaceU (b ++ hexK up x 16 ++ a) = hexK up x 16 := by
  refine trim_wrapped b _ a hb ha ?_ ?_
  · exact head_dig up _ (Nat.mod_lt _ (by decide)) _
  · obtain ⟨t, ht⟩ := hexK_last up x 16 (by decide)
    rw [ht]
    exact tail_dig up _ (Nat.mod_lt _ (by decide)) t
theorem trim_two (up : Bool) (x y : Nat) (b a : List UInt8) (hb : Blank b) (ha : Blank a) : trimSpaceU (b ++ (hexK up y 16 ++ hexK up x 16) ++ a) = hexK up y 16 ++ hexK up x 16 := by
  refine trim_wrapped b _ a hb ha ?_ ?_
  · exact head_dig up _ (Nat.mod_lt _ (by decide)) _
  · obtain ⟨t, ht⟩ := hexK_last up x 16 (by decide)
    rw [ht, ← List.append_assoc]
    exact tail_dig up _ (Nat.mod_lt _ (by decide)) _

end Go.Proofs.Qxb6602621aDoor
