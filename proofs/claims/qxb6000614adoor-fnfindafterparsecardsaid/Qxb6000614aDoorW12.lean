/-
  WALKS of seat b6000614aD: ZZScheme, ZZParam, ZZParamCount.
-/
import Derived.Test.Qxb6000614aDoorW11
import Derived.Test.Qxb6000614aDoorW4
set_option linter.unusedVariables false
namespace Go.Proofs.Qxb6000614aDoor
open Go.RowKit Go.Lib

theorem scheme_any (t : ByteArray) (m : Option Nat) (w : World) : Calls Tryd.prog 14 #[.agg #[.string t, .map m]] w fun e w' => e = .returned (.string t) ∧ Below w.heap.size w w' := by
  go_enter Tryd.func14, Tryd.ntmps14
  go_wp2
  go_ret
  exact ⟨rfl, (Below.refl _ _).alloc (Nat.le_refl _) _⟩
theorem MapAt.grew {w w' : World} {m n : Nat} {ps : List (List UInt8 × List UInt8)} (h : MapAt w m n ps) (hb : Below w.heap.size w w') : MapAt w' m n ps := World.ownsMap.kept h (below_none hb) (by simp)

/-- What ZZParam answers. -/
def ParEnd (ps : List (List UInt8 × List UInt8)) (key : List UInt8) (e : Ending) : Prop := ∃ tv : ByteArray, e = .returned (.tuple #[.string tv, .bool (Maps.has (pmap ps) (.string key))]) ∧ (pmap ps).atKey (.string key) (.lit (.string [])) = .lit (.string tv.data.toList)
theorem param_any (t key : ByteArray) (m n : Nat) (ps : List (List UInt8 × List UInt8)) (w : World) (hk : key.size ≤ maxLen) (hm : MapAt w m n ps) : Calls Tryd.prog 26 #[.agg #[.string t, .map (some m)], .string key] w fun e w' => ParEnd ps key.data.toList e ∧ Below w.heap.size w w' := by
  have hm1 : (w.alloc (.cells #[.string t, .map (some m)] 35)).ownsMap Tryd.prog 9 (plainElem Tryd.prog 9) m n (pmap ps) := World.ownsMap.alloc hm _
  obtain ⟨v, qs, hrun, hv⟩ := hm1.look_ok (Maps.string_keyed Tryd.underlying9) Tryd.underlying33 (Tryd.zeroValue9 _) (plainElem_string Tryd.underlying9 (s := ⟨#[]⟩) (Nat.zero_le _)) (WideMaps.keyOf_string_mk Tryd.underlying9 hk)
  obtain ⟨tv, rfl, hz, _⟩ := plainElem_string_inv Tryd.underlying9 hv
  have HZ := hide hz
  clear hz hv hm1 hm
  go_enter Tryd.func26, Tryd.ntmps26
  go_wp2
  go_ret2
  exact ⟨⟨tv, rfl, congrArg Prod.fst (unhide HZ)⟩, (Below.refl _ _).alloc (Nat.le_refl _) _⟩
theorem count_any (t : ByteArray) (m n : Nat) (ps : List (List UInt8 × List UInt8)) (w : World) (hm : MapAt w m n ps) : Calls Tryd.prog 22 #[.agg #[.string t, .map (some m)]] w fun e w' => e = .returned (.int .i64 (Maps.size (pmap ps))) ∧ Below w.heap.size w w' := by
  have hm1 : (w.alloc (.cells #[.string t, .map (some m)] 35)).ownsMap Tryd.prog 9 (plainElem Tryd.prog 9) m n (pmap ps) := World.ownsMap.alloc hm _
  have hrun := hm1.len Tryd.underlying33 3
  have HM := hide hm1
  clear hm hm1
  go_enter Tryd.func22, Tryd.ntmps22
  go_wp2
  go_ret
  exact ⟨rfl, (Below.refl _ _).alloc (Nat.le_refl _) _⟩
end Go.Proofs.Qxb6000614aDoor
