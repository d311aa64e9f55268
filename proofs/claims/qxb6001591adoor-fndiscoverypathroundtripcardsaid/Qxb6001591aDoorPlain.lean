/-
  Plain facts for seat b6001591aD: segments, Trim, Split.
-/
import Derived.Lib.SplitLaws
import Derived.Lib.TrimByte
namespace Go.Proofs.Qxb6001591aDoor
open Go.Lib

/-- A segment: not empty, no slash. -/
def Seg (l : List UInt8) : Prop := l ≠ [] ∧ ∀ c ∈ l, c ≠ 47
def jn : List (List UInt8) → List UInt8
  | [] => []
  | [a] => a
  | a :: b :: r => a ++ 47 :: jn (b :: r)
theorem pre_one (b : UInt8) (l : List UInt8) : List.isPrefixOf [47] (b :: l) = (47 == b) := by
  cases l <;> simp [List.isPrefixOf]
theorem index_no : ∀ (l : List UInt8), (∀ c ∈ l, c ≠ 47) → index l [47] = -1
  | [], _ => rfl
  | b :: l, h => by
    have hb : (47 == b) = false := by
      have := h b (by simp)
      simp; exact fun e => this e.symm
    unfold index
    rw [pre_one, hb, index_no l (fun c hc => h c (by simp [hc]))]
    rfl
theorem index_at : ∀ (l r : List UInt8), (∀ c ∈ l, c ≠ 47) → index (l ++ 47 :: r) [47] = (l.length : Int)
  | [], r, _ => by
    show index (47 :: r) [47] = 0
    unfold index
    rw [pre_one]; rfl
  | b :: l, r, h => by
    have hb : (47 == b) = false := by
      have := h b (by simp)
      simp; exact fun e => this e.symm
    rw [List.cons_append]
    unfold index
    rw [pre_one, hb, index_at l r (fun c hc => h c (by simp [hc]))]
    have : ((l.length : Int) == -1) = false := by simp
    rw [this]
    simp
theorem count_jn : ∀ (a : List UInt8) (r : List (List UInt8)), (∀ x ∈ a :: r, ∀ c ∈ x, c ≠ 47) → count (jn (a :: r)) [47] = r.length
  | a, [], h => count_miss (index_no a (h a (by simp)))
  | a, b :: r, h => by
    have ih := count_jn b r (fun x hx => h x (List.mem_cons_of_mem _ hx))
    show count (a ++ 47 :: jn (b :: r)) [47] = _
    rw [count_hit (by simp) (index_at a (jn (b :: r)) (h a (by simp)))]
    rw [show (a ++ 47 :: jn (b :: r)).drop (a.length + ([47] : List UInt8).length) = jn (b :: r) by simp [List.drop_append]]
    rw [ih]
    simp; omega
theorem split_jn : ∀ (a : List UInt8) (r : List (List UInt8)), (∀ x ∈ a :: r, ∀ c ∈ x, c ≠ 47) → splitK [47] 0 r.length (jn (a :: r)) = a :: r
  | a, [], h => rfl
  | a, b :: r, h => by
    have ih := split_jn b r (fun x hx => h x (List.mem_cons_of_mem _ hx))
    have hi := index_at a (jn (b :: r)) (h a (by simp))
    show splitK [47] 0 (r.length + 1) (a ++ 47 :: jn (b :: r)) = _
    unfold splitK
    rw [hi]
    have : ((a.length : Int) == -1) = false := by simp
    rw [this]
    simp only [Bool.false_eq_true, if_false, Int.toNat_natCast, Nat.add_zero]
    rw [List.take_left, show (a ++ 47 :: jn (b :: r)).drop (a.length + ([47] : List UInt8).length) = jn (b :: r) by simp [List.drop_append], ih]
def bstr (l : List UInt8) : ByteArray := ⟨l.toArray⟩
theorem bstr_size (l : List UInt8) : (bstr l).size = l.length := by
  show l.toArray.size = _
  simp
theorem bytes_ext {a b : ByteArray} (h : a.data.toList = b.data.toList) : a = b := by
  cases a; cases b
  congr 1
  exact Array.toList_inj.1 h
theorem map_inj : ∀ {xs ys : List ByteArray}, xs.map (·.data.toList) = ys.map (·.data.toList) → xs = ys
  | [], [], _ => rfl
  | [], y :: ys, h => by cases h
  | x :: xs, [], h => by cases h
  | x :: xs, y :: ys, h => by
    simp only [List.map_cons, List.cons.injEq] at h
    rw [bytes_ext h.1, map_inj h.2]
theorem splitB_jn (a : List UInt8) (r : List (List UInt8)) (h : ∀ x ∈ a :: r, ∀ c ∈ x, c ≠ 47) : splitB ⟨#[47]⟩ 0 r.length (bstr (jn (a :: r))) = (a :: r).map bstr := by
  refine map_inj ?_
  rw [splitB_data]
  show splitK [47] 0 r.length (jn (a :: r)) = _
  rw [split_jn a r h, List.map_map]
  simp [bstr, Function.comp_def]
theorem countB_jn (a : List UInt8) (r : List (List UInt8)) (h : ∀ x ∈ a :: r, ∀ c ∈ x, c ≠ 47) : countB (bstr (jn (a :: r))) ⟨#[47]⟩ = r.length := count_jn a r h
/-! ### Trim -/
theorem drop_first (l : List UInt8) (h : ∀ c, l.head? = some c → c ≠ 47) : l.dropWhile (· == 47) = l := by
  cases l with
  | nil => rfl
  | cons c r => rw [List.dropWhile_cons, if_neg (by have := h c rfl; simpa using this)]
theorem jn_head (a : List UInt8) (r : List (List UInt8)) (h : Seg a) : ∀ c, (jn (a :: r)).head? = some c → c ≠ 47 := by
  intro c hc
  obtain ⟨x, xs, rfl⟩ : ∃ x xs, a = x :: xs := by
    cases a with
    | nil => exact absurd rfl h.1
    | cons x xs => exact ⟨x, xs, rfl⟩
  have e : (jn ((x :: xs) :: r)).head? = some x := by cases r <;> rfl
  rw [e] at hc
  cases hc
  exact h.2 _ (by simp)
theorem jn_last : ∀ (a : List UInt8) (r : List (List UInt8)), (∀ x ∈ a :: r, Seg x) → ∀ c, (jn (a :: r)).getLast? = some c → c ≠ 47
  | a, [], h, c, hc => (h a (by simp)).2 c (List.mem_of_getLast? hc)
  | a, b :: r, h, c, hc => by
    have ih := jn_last b r (fun x hx => h x (List.mem_cons_of_mem _ hx))
    have hne : jn (b :: r) ≠ [] := by
      intro e
      have hb := (h b (by simp)).1
      cases r with
      | nil => exact hb e
      | cons d q => simp [jn] at e
    refine ih c ?_
    rw [show jn (a :: b :: r) = a ++ 47 :: jn (b :: r) from rfl] at hc
    rw [List.getLast?_append, List.getLast?_cons_of_ne_nil hne] at hc
    cases hl : (jn (b :: r)).getLast? with
    | none => exact absurd (List.getLast?_eq_none_iff.1 hl) hne
    | some z => rw [hl] at hc; simpa using hc
theorem trim_jn (a : List UInt8) (r : List (List UInt8)) (h : ∀ x ∈ a :: r, Seg x) : trimB (47 :: jn (a :: r)) 47 = jn (a :: r) := by
  have hne : jn (a :: r) ≠ [] := by
    intro e
    have ha := (h a (by simp)).1
    cases r with
    | nil => exact ha e
    | cons d q => simp [jn] at e
  have h1 : trimRightB (47 :: jn (a :: r)) 47 = 47 :: jn (a :: r) := by
    unfold trimRightB
    rw [drop_first]
    · simp
    · intro c hc
      rw [List.head?_reverse, List.getLast?_cons_of_ne_nil hne] at hc
      exact jn_last a r h c hc
  unfold trimB
  rw [h1]
  unfold trimLeftB
  rw [List.dropWhile_cons, if_pos (by rfl)]
  exact drop_first _ (jn_head a r (h a (by simp)))
end Go.Proofs.Qxb6001591aDoor
