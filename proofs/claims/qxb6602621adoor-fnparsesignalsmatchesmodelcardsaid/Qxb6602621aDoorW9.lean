/-
  WALKS of seat b6602621aD: the law FnParseSignalsReadsWhatIsWritten.
-/
import Derived.Test.Qxb6602621aDoorW8
import Derived.Laws.AppendOwnNone
namespace Go.Proofs.Qxb6602621aDoor
open Go.RowKit Go.Lib

/-- The slice value v of the call's own holds l. -/
def Own (B : Nat) (w : World) (v : Value) (l : List UInt8) : Prop := w.ownsRow B 5 1 v l.length (cellsB l)

theorem cellsB_get {l : List UInt8} {j : Nat} {u : Value} (h : (cellsB l)[j]? = some u) : j < l.length ∧ u = .int .u8 (l.getD j 0).toNat := by
  unfold cellsB at h
  rw [List.getElem?_map] at h
  cases hx : l[j]? with
  | none => rw [hx] at h; cases h
  | some c =>
    rw [hx] at h
    have := (List.getElem?_eq_some_iff.1 hx).1
    simp at h
    exact ⟨this, by rw [← h, List.getD, hx]; rfl⟩
theorem addr_add (b o j : Nat) : (⟨b, o, none⟩ : Addr).add j = ⟨b, o + j, none⟩ := by
  unfold Addr.add
  by_cases h0 : j = 0 <;> simp [h0]
theorem cells_one (l : List UInt8) : ∀ u : Value, u ∈ cellsB l → u.oneCell' = true := by
  intro u hu
  obtain ⟨c, _, rfl⟩ := List.mem_map.1 hu
  rfl

/-- 'buf = append(buf, src...)': buf the call's own, src whatever. -/
theorem app_src {w : World} {ops : Array Oper} {rest : List Oper} {o : Oper} {a : Act} {Q : Exit → Act → World → Prop} (hgd : o.guard = none) (s x : Operand)
    (ho : o.op = .call { callee := .builtin .append, args := #[s, x], argTypes := #[22, 22] }) (B : Nat) (v : Value) (bs : List UInt8) (hs : a.eval s = v) (hown : Own B w v bs)
    (p : Option Addr) (l : List UInt8) (c : Nat) (hx : a.eval x = .slice p l.length c) (hnil : p = none → l = [] ∧ c = 0) (hV : View w p l) (hlen : bs.length + l.length ≤ 1099511627776) (hB : B ≤ w.heap.size)
    (h : ∀ v' w', Own B w' v' (bs ++ l) → Below B w w' → wpList Tryd.prog ops Q rest (a.put o.dst v') w') : wpList Tryd.prog ops Q (o :: rest) a w := by
  obtain ⟨i0, hi, hz0, hz1, hz2⟩ := info_parts Tryd.info5
  cases p with
  | none =>
    obtain ⟨rfl, rfl⟩ := hnil rfl
    refine wpList_append_own_none hgd s x 22 ho B 5 i0 1 Tryd.underlying22 hi v bs.length (cellsB bs) hs hown hx (h v w ?_ (Below.refl _ _))
    rw [List.append_nil]; exact hown
  | some ad =>
    refine wpList_append_own w hgd s x 22 ho B 5 i0 (.int .u8 0) 1 1 Tryd.underlying22 hi hz0 hz1 hz2 rfl (by decide) v bs.length (cellsB bs) hs hown ad l.length c (cellsB l) hx (by simp [cellsB]) ?_ (cells_one l) (by unfold maxLen; omega) (by omega) hB ?_
    · intro j u hu
      obtain ⟨hj, rfl⟩ := cellsB_get hu
      obtain ⟨b, off, e, hH⟩ := hV (by omega)
      cases e
      rw [addr_add]; exact hH j hj
    · intro v' w' h1 h2 _
      refine h v' w' ?_ ((Below.refl B w).grown h2 hB (fun k e => (hown.lt k e).1))
      unfold Own
      rw [List.length_append, cellsB_append]; exact h1

/-- What the call's own slice holds, as a slice of bytes. -/
theorem Own.has {B : Nat} {w : World} {v : Value} {l : List UInt8} (h : Own B w v l) (hl : 0 < l.length) : ∃ g cap, v = .slice (some ⟨g, 0, none⟩) l.length cap ∧ l.length ≤ cap ∧ HasB w g 0 l := by
  obtain ⟨_, h2⟩ := h
  rcases h2 with ⟨_, h0⟩ | ⟨g, cap, cur, rfl, _, hg, hc, _, hs, ht⟩
  · omega
  · refine ⟨g, cap, rfl, hc, fun j hj => ?_⟩
    rw [Nat.mul_one] at ht hs
    have h1 : (cur.toList.take l.length)[j]? = some (.int .u8 (l.getD j 0).toNat) := by
      rw [ht]; unfold cellsB
      rw [List.getElem?_map, List.getElem?_eq_getElem hj, List.getD, List.getElem?_eq_getElem hj]; rfl
    rw [List.getElem?_take, if_pos hj] at h1
    simp [World.cell?, hg]
    simpa using h1

theorem View.below {w w' : World} {p : Option Addr} {l : List UInt8} (h : View w p l) (hb : Below w.heap.size w w') : View w' p l := by
  intro hl
  obtain ⟨b, o, e, hH⟩ := h hl
  exact ⟨b, o, e, hH.below hb⟩

set_option maxHeartbeats 400000 in
theorem bytes9 (x y : Int) (m u : Bool) (p1 p2 : Option Addr) (n1 c1 n2 c2 : Nat) (w : World) (h1 : n1 ≤ 9223372036854775807) (h2 : n2 ≤ 9223372036854775807) :
    Calls Tryd.prog 9 #[.int .u64 x, .int .u64 y, .bool m, .bool u, .slice p1 n1 c1, .slice p2 n2 c2] w fun e w' => e = .returned (.bool (decide (n1 + n2 ≤ 1048576))) ∧ w' = w := by
  by_cases ha : n1 ≤ 1048576
  · by_cases hb : n2 ≤ 1048576
    · by_cases hc : n1 + n2 ≤ 1048576
      · rw [decide_eq_true hc]
        go_enter Tryd.func9, Tryd.ntmps9
        go_wp2
        go_ret
        exact ⟨rfl, rfl⟩
      · rw [decide_eq_false hc]
        go_enter Tryd.func9, Tryd.ntmps9
        go_wp2
        go_ret
        exact ⟨rfl, rfl⟩
    · rw [decide_eq_false (by omega)]
      go_enter Tryd.func9, Tryd.ntmps9
      go_wp2
      go_ret
      exact ⟨rfl, rfl⟩
  · rw [decide_eq_false (by omega)]
    go_enter Tryd.func9, Tryd.ntmps9
    go_wp2
    go_ret
    exact ⟨rfl, rfl⟩
end Go.Proofs.Qxb6602621aDoor
