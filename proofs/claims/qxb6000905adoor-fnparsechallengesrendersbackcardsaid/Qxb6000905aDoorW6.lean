/-
  WALKS of seat b6000905aD: parseChallenges along rendered headers.
-/
import Derived.Test.Qxb6000905aDoorW5
import Derived.Deep.CutBlock
set_option linter.unusedVariables false
namespace Go.Proofs.Qxb6000905aDoor
open Go.RowKit Go.Lib

/-- A text as a string. -/
def bstr (l : List UInt8) : ByteArray := ⟨l.toArray⟩
theorem bstr_list (l : List UInt8) : (bstr l).data.toList = l := rfl
theorem bstr_size (l : List UInt8) : (bstr l).size = l.length := by
  show l.toArray.size = _
  simp
theorem bstr_eq (s : ByteArray) : bstr s.data.toList = s := WideShapes.bytes_inj rfl
theorem ws_has : ∀ c : UInt8, (⟨#[32, 9]⟩ : ByteArray).data.toList.contains c = isWs c := by
  intro c; simp [isWs]; rfl
theorem sep_has : ∀ c : UInt8, (⟨#[32, 9, 44]⟩ : ByteArray).data.toList.contains c = isSep c := by
  have key : ∀ i : Fin 256, (⟨#[32, 9, 44]⟩ : ByteArray).data.toList.contains (UInt8.ofNat i.val) = isSep (UInt8.ofNat i.val) := by decide +kernel
  intro c
  have := key ⟨c.toNat, UInt8.toNat_lt c⟩
  simpa only [UInt8.ofNat_toNat] using this
theorem ascii2 : ∀ (j : Nat) b, (⟨#[32, 9]⟩ : ByteArray).data.toList[j]? = some b → b.toNat < 128 := by
  intro j b h
  have hm : b ∈ ([32, 9] : List UInt8) := List.mem_of_getElem? h
  simp at hm
  rcases hm with rfl | rfl <;> decide
theorem ascii3 : ∀ (j : Nat) b, (⟨#[32, 9, 44]⟩ : ByteArray).data.toList[j]? = some b → b.toNat < 128 := by
  intro j b h
  have hm : b ∈ ([32, 9, 44] : List UInt8) := List.mem_of_getElem? h
  simp at hm
  rcases hm with rfl | rfl | rfl <;> decide
theorem trim_ws (l d : List UInt8) (w : World) (h : l.dropWhile isWs = d) (hz : l.length ≤ 1099511627776) :
    Calls Tryd.prog 23 #[.string (bstr l), .string ⟨#[32, 9]⟩] w fun e w' => e = .returned (.string (bstr d)) ∧ Below w.heap.size w w' := by
  subst h
  exact trimLeft_any (bstr l) ⟨#[32, 9]⟩ isWs w ws_has (by decide) (by decide) ascii2 (by rw [bstr_size]; exact hz)
theorem trim_sep (l d : List UInt8) (w : World) (h : l.dropWhile isSep = d) (hz : l.length ≤ 1099511627776) :
    Calls Tryd.prog 23 #[.string (bstr l), .string ⟨#[32, 9, 44]⟩] w fun e w' => e = .returned (.string (bstr d)) ∧ Below w.heap.size w w' := by
  subst h
  exact trimLeft_any (bstr l) ⟨#[32, 9, 44]⟩ isSep w sep_has (by decide) (by decide) ascii3 (by rw [bstr_size]; exact hz)
theorem cut_tok (l tk u : List UInt8) (w : World) (h : l = tk ++ u) (ht : ∀ c ∈ tk, isTok c = true) (hu : Stop u) (hz : l.length ≤ 1099511627776) :
    Calls Tryd.prog 24 #[.string (bstr l)] w fun e w' => e = .returned (.tuple #[.string (bstr tk), .string (bstr u)]) ∧ Below w.heap.size w w' :=
  cutToken_at (bstr l) tk u w h ht hu (by rw [bstr_size]; exact hz)
theorem cut_val (v D : List UInt8) (w : World) (hz : (quoted v ++ D).length ≤ 1099511627776) :
    Calls Tryd.prog 27 #[.string (bstr (quoted v ++ D))] w fun e w' => e = .returned (.tuple #[.string (bstr v), .string (bstr D)]) ∧ Below w.heap.size w w' := by
  have h := cutValue_q (bstr (quoted v ++ D)) w (qv_quoted v D).2.1 (by rw [bstr_size]; exact hz)
  rw [bstr_list, (qv_quoted v D).1] at h
  exact h
theorem has_pre (l : List UInt8) (c : UInt8) (w : World) : Calls Tryd.prog 26 #[.string (bstr l), .string ⟨#[c]⟩] w fun e w' => e = .returned (.bool (decide (l.head? = some c))) ∧ w' = w := by
  have h := Tryd.strings_HasPrefix (bstr l) ⟨#[c]⟩ w
  have e : hasPrefix (bstr l).data.toList (⟨#[c]⟩ : ByteArray).data.toList = decide (l.head? = some c) := by
    rw [bstr_list]
    show hasPrefix l [c] = _
    cases l with
    | nil => simp [hasPrefix]
    | cons a r =>
      by_cases ha : a = c
      · subst ha; simp [hasPrefix]
      · have hc : ¬ c = a := fun e => ha e.symm
        have hb : (c == a) = false := by simpa using hc
        show ([c].isPrefixOf (a :: r)) = _
        unfold List.isPrefixOf
        rw [hb]
        simp [ha]
  rw [e] at h
  exact h
end Go.Proofs.Qxb6000905aDoor
