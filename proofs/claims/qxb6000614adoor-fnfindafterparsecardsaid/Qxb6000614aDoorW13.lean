/-
  The two maps of zzParamsMatch, in plain words: the parameters read, the last place of each name. Seat b6000614aD.
-/
import Derived.Test.Qxb6000614aDoorW12
set_option linter.unusedVariables false
namespace Go.Proofs.Qxb6000614aDoor
open Go.RowKit Go.Lib Go.Maps

def lowN (ns : List ByteArray) (i : Nat) : List UInt8 := toLowerA (ns.getD i ⟨#[]⟩).data.toList
def lmap (ns : List ByteArray) : Nat → DataW Unit
  | 0 => .map []
  | i + 1 => (lmap ns i).put (.string (lowN ns i)) (.lit (.int .i64 i))
def prs2 (ns vs : List ByteArray) : List (List UInt8 × List UInt8) := vals (prms ns vs)
theorem prs2_len (ns vs : List ByteArray) (h : vs.length = ns.length) : (prs2 ns vs).length = ns.length := by unfold prs2 vals prms; simp; omega
theorem prs2_take (ns vs : List ByteArray) (h : vs.length = ns.length) (i : Nat) (hi : i < ns.length) : (prs2 ns vs).take (i + 1) = (prs2 ns vs).take i ++ [((ns.getD i ⟨#[]⟩).data.toList, (vs.getD i ⟨#[]⟩).data.toList)] := by
  have hl : i < (prs2 ns vs).length := by rw [prs2_len ns vs h]; exact hi
  rw [List.take_succ_eq_append_getElem hl]
  congr 2
  have h1 : ns.getD i ⟨#[]⟩ = ns[i] := by rw [List.getD_eq_getElem?_getD, List.getElem?_eq_getElem hi]; rfl
  have h2 : vs.getD i ⟨#[]⟩ = vs[i]'(by omega) := by rw [List.getD_eq_getElem?_getD, List.getElem?_eq_getElem (by omega)]; rfl
  rw [h1, h2]
  unfold prs2 vals prms
  simp
theorem key_str (l : List UInt8) : WideAt.IsKeyLit (.string l) := trivial

structure Agree (ns vs : List ByteArray) (i : Nat) : Prop where
  tp : Tidy (pmap ((prs2 ns vs).take i))
  tl : Tidy (lmap ns i)
  size : Maps.size (pmap ((prs2 ns vs).take i)) = Maps.size (lmap ns i)
  has : ∀ k, Maps.has (pmap ((prs2 ns vs).take i)) k = Maps.has (lmap ns i) k
  val : ∀ k, Maps.has (lmap ns i) k = true → ∃ j, j < i ∧ (∀ z, (pmap ((prs2 ns vs).take i)).atKey k z = .lit (.string (vs.getD j ⟨#[]⟩).data.toList)) ∧ (∀ z, (lmap ns i).atKey k z = .lit (.int .i64 j))
  keys : ∀ j, j < i → Maps.has (lmap ns i) (.string (lowN ns j)) = true
theorem agree (ns vs : List ByteArray) (h : vs.length = ns.length) : ∀ i, i ≤ ns.length → Agree ns vs i
  | 0, _ => ⟨tidy_empty, tidy_empty, rfl, fun _ => rfl, fun k hk => by simp [lmap, Maps.has] at hk, fun j hj => by omega⟩
  | i + 1, hi => by
    have A := agree ns vs h i (by omega)
    have e : pmap ((prs2 ns vs).take (i + 1)) = (pmap ((prs2 ns vs).take i)).put (.string (lowN ns i)) (.lit (.string (vs.getD i ⟨#[]⟩).data.toList)) := by
      rw [prs2_take ns vs h i (by omega), pmap_snoc]; rfl
    have e2 : lmap ns (i + 1) = (lmap ns i).put (.string (lowN ns i)) (.lit (.int .i64 i)) := rfl
    refine ⟨by rw [e]; exact A.tp.put (key_str _) _, by rw [e2]; exact A.tl.put (key_str _) _, ?_, ?_, ?_, ?_⟩
    · rw [e, e2, size_put A.tp, size_put A.tl, A.has, A.size]
    · intro k
      rw [e, e2]
      by_cases hk : k = .string (lowN ns i)
      · subst hk
        rw [has_put_same A.tp.isMap (key_str _), has_put_same A.tl.isMap (key_str _)]
      · rw [has_put_other hk, has_put_other hk, A.has]
    · intro k hk
      rw [e2] at hk
      by_cases hkk : k = .string (lowN ns i)
      · subst hkk
        refine ⟨i, by omega, fun z => ?_, fun z => ?_⟩
        · rw [e, atKey_put_same A.tp.isMap (key_str _)]
        · rw [e2, atKey_put_same A.tl.isMap (key_str _)]
      · rw [has_put_other hkk] at hk
        obtain ⟨j, hj, h1, h2⟩ := A.val k hk
        refine ⟨j, by omega, fun z => ?_, fun z => ?_⟩
        · rw [e, atKey_put_other hkk, h1]
        · rw [e2, atKey_put_other hkk, h2]
    · intro j hj
      rw [e2]
      by_cases hk : (Lit.string (lowN ns j)) = .string (lowN ns i)
      · rw [hk, has_put_same A.tl.isMap (key_str _)]
      · rw [has_put_other hk]
        refine A.keys j ?_
        rcases Nat.lt_or_ge j i with h' | h'
        · exact h'
        · have : j = i := by omega
          subst this
          exact absurd rfl hk
theorem agree_all (ns vs : List ByteArray) (h : vs.length = ns.length) : pmap ((prs2 ns vs).take ns.length) = pmap (prs2 ns vs) := by
  rw [List.take_of_length_le (by rw [prs2_len ns vs h]; exact Nat.le_refl _)]
end Go.Proofs.Qxb6000614aDoor
