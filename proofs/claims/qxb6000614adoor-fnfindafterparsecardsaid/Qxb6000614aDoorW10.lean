/-
  WALKS of seat b6000614aD: zzAppendEscaped, zzAppendChallenge.
-/
import Derived.Test.Qxb6000614aDoorW9
import Derived.Lib.AppendStr
import Derived.Deep.AppendLies
set_option linter.unusedVariables false
namespace Go.Proofs.Qxb6000614aDoor
open Go.RowKit Go.Lib

def cellsB (l : List UInt8) : List Value := l.map fun c => .int .u8 c.toNat
theorem cellsB_append (a b : List UInt8) : cellsB (a ++ b) = cellsB a ++ cellsB b := by simp [cellsB]
theorem cells_one (l : List UInt8) : ∀ u : Value, u ∈ cellsB l → u.oneCell' = true := by
  intro u hu
  obtain ⟨c, _, rfl⟩ := List.mem_map.1 hu
  rfl
/-- The slice value v of the call's own holds l. -/
def Own (B : Nat) (w : World) (v : Value) (l : List UInt8) : Prop := w.ownsRow B 5 1 v l.length (cellsB l)
theorem Own.alloc {B : Nat} {w : World} {v : Value} {l : List UInt8} (h : Own B w v l) (o : Obj) : Own B (w.alloc o) v l := World.ownsRow.alloc h o
theorem Own.le {B : Nat} {w : World} {v : Value} {l : List UInt8} (h : Own B w v l) : True := trivial

/-- 'b = append(b, ..)' of bytes that lie in a block. -/
theorem app_cells {w : World} {ops : Array Oper} {rest : List Oper} {o : Oper} {a : Act} {Q : Exit → Act → World → Prop} (hgd : o.guard = none) (s x : Operand)
    (ho : o.op = .call { callee := .builtin .append, args := #[s, x], argTypes := #[28, 28] }) (B : Nat) (v : Value) (bs : List UInt8) (hs : a.eval s = v) (hown : Own B w v bs)
    (ad : Addr) (l : List UInt8) (c : Nat) (hx : a.eval x = .slice (some ad) l.length c) (hc : ∀ j u, (cellsB l)[j]? = some u → w.cell? (ad.add j) = some u) (hlen : bs.length + l.length ≤ 1099511627776) (hB : B ≤ w.heap.size)
    (h : ∀ v' w', Own B w' v' (bs ++ l) → Below B w w' → wpList Tryd.prog ops Q rest (a.put o.dst v') w') : wpList Tryd.prog ops Q (o :: rest) a w := by
  obtain ⟨i0, hi, hz0, hz1, hz2⟩ := info_parts Tryd.info5
  refine wpList_append_own w hgd s x 28 ho B 5 i0 (.int .u8 0) 1 1 Tryd.underlying28 hi hz0 hz1 hz2 rfl (by decide) v bs.length (cellsB bs) hs hown ad l.length c (cellsB l) hx (by simp [cellsB]) hc (cells_one l) (by unfold maxLen; omega) (by omega) hB ?_
  intro v' w' h1 h2 _
  refine h v' w' ?_ ((Below.refl B w).grown h2 hB (fun k e => (hown.lt k e).1))
  unfold Own
  rw [List.length_append, cellsB_append]; exact h1
/-- 'b = append(b, s...)' of a string. -/
theorem app_str {w : World} {ops : Array Oper} {rest : List Oper} {o : Oper} {a : Act} {Q : Exit → Act → World → Prop} (hgd : o.guard = none) (s x : Operand)
    (ho : o.op = .call { callee := .builtin .append, args := #[s, x], argTypes := #[28, 9] }) (B : Nat) (v : Value) (bs : List UInt8) (hs : a.eval s = v) (hown : Own B w v bs)
    (t : ByteArray) (hx : a.eval x = .string t) (hlen : bs.length + t.size ≤ 1099511627776) (hB : B ≤ w.heap.size)
    (h : ∀ v' w', Own B w' v' (bs ++ t.data.toList) → Below B w w' → wpList Tryd.prog ops Q rest (a.put o.dst v') w') : wpList Tryd.prog ops Q (o :: rest) a w := by
  obtain ⟨i0, hi, hz0, hz1, hz2⟩ := info_parts Tryd.info5
  refine wpList_append_own_string w hgd s x 28 9 ho B 5 i0 Tryd.underlying28 Tryd.underlying9 hi hz0 hz1 hz2 v bs.length (cellsB bs) hs hown t hx (by unfold maxLen; omega) (by omega) hB ?_
  intro v' w' h1 h2 _
  refine h v' w' ?_ ((Below.refl B w).grown h2 hB (fun k e => (hown.lt k e).1))
  unfold Own
  rw [List.length_append, cellsB_append]
  have e : t.data.toList.length = t.size := by simp
  rw [e]; exact h1
theorem size_up' {B : Nat} {w : World} (h : B ≤ w.heap.size) (o : Obj) : B ≤ (w.alloc o).heap.size := by simp; omega
theorem below_al {B : Nat} {w0 w w1 : World} {o : Obj} (h : Below B w0 w) (hB : B ≤ w.heap.size) (h1 : Below B (w.alloc o) w1) : Below B w0 w1 := (h.alloc hB o).trans h1
/-- The cells of a literal. -/
theorem lit_cells (w : World) (l : List UInt8) (cs : Array Value) (hcs : cs.toList = cellsB l) : ∀ j u, (cellsB l)[j]? = some u → (w.alloc (.cells cs 5)).cell? ((⟨w.heap.size, 0, none⟩ : Addr).add j) = some u := by
  rw [← hcs]
  exact World.news_of_block (heap_alloc_new w _)

set_option maxHeartbeats 1000000 in
set_option maxRecDepth 100000 in
/-- zzAppendEscaped. -/
theorem escaped_any (B : Nat) (v : Value) (bs : List UInt8) (x : ByteArray) (w : World) (hlen : bs.length + 2 * x.size ≤ 1099511627776) (hB : B ≤ w.heap.size) (hown : Own B w v bs) :
    Calls Tryd.prog 28 #[v, .string x] w fun e w' => ∃ v', e = .returned v' ∧ Own B w' v' (bs ++ esc x.data.toList) ∧ Below B w w' := by
  have HO := hide hown
  clear hown
  go_enter Tryd.func28, Tryd.ntmps28
  go_wp2
  go_loopw [0, 5] (fun u k wr => ∃ (i : Nat) (g : List UInt8), i ≤ x.size ∧ k = .int .i64 i ∧ g.length ≤ 2 * i ∧ Hid (Own B wr u (bs ++ g)) ∧ Hid (Below B w wr) ∧ Hid (esc x.data.toList = g ++ esc (sfx x i))) (fun _ k _ => x.size - (RowKit.intOf k).toNat)
  case atStart => exact ⟨0, [], Nat.zero_le _, rfl, Nat.le_refl _, hide (by simpa using unhide HO), hide (Below.refl _ _), hide (by simp [sfx])⟩
  case round =>
    clear HO
    obtain ⟨i, g, hi, rfl, hg, HO, HB, HE⟩ := hrel
    have hwr : B ≤ wr.heap.size := Nat.le_trans hB (unhide HB).size
    by_cases hlt : i < x.size
    · by_cases hs : x[i] = 34 ∨ x[i] = 92
      · have HE2 := hide (show esc x.data.toList = (g ++ [92, x[i]]) ++ esc (sfx x (i + 1)) by
          rw [unhide HE, sfx_cons x i hlt]; simp [esc, if_pos hs])
        rcases hs with hs | hs
        · have hq : ((x[i].toNat : Int) == 34) = true := by rw [hs]; rfl
          clear hs
          go_wp2_with (at_builtin; refine app_cells rfl _ _ rfl B _ (bs ++ g) rfl ((unhide HO).alloc _) ⟨wr.heap.size, 0, none⟩ [92] 1 rfl (lit_cells _ _ _ rfl) (by simp; omega) (size_up' hwr _) ?_)
          intro v1 w1 ho1 hb1
          have HO1 := hide ho1
          have HB1 := hide (below_al (unhide HB) hwr hb1)
          have hw1 : B ≤ w1.heap.size := Nat.le_trans hB (unhide HB1).size
          clear ho1 hb1
          go_wp2_with (at_builtin; refine app_cells rfl _ _ rfl B _ _ rfl ((unhide HO1).alloc _) ⟨w1.heap.size, 0, none⟩ [x[i]] 1 rfl (lit_cells _ _ _ rfl) (by simp; omega) (size_up' hw1 _) ?_)
          intro v2 w2 ho2 hb2
          have HO2 := hide ho2
          have HB2 := hide (below_al (unhide HB1) hw1 hb2)
          clear ho2 hb2
          go_wp2
          go_roundw
          case rel => exact ⟨i + 1, g ++ [92, x[i]], hlt, by go_num, by simp; omega, hide (by simpa using unhide HO2), HB2, HE2⟩
          case measure => simp [RowKit.intOf]; omega
        · have hq : ((x[i].toNat : Int) == 34) = false := by rw [hs]; rfl
          have hq2 : ((x[i].toNat : Int) == 92) = true := by rw [hs]; rfl
          clear hs
          go_wp2_with (at_builtin; refine app_cells rfl _ _ rfl B _ (bs ++ g) rfl ((unhide HO).alloc _) ⟨wr.heap.size, 0, none⟩ [92] 1 rfl (lit_cells _ _ _ rfl) (by simp; omega) (size_up' hwr _) ?_)
          intro v1 w1 ho1 hb1
          have HO1 := hide ho1
          have HB1 := hide (below_al (unhide HB) hwr hb1)
          have hw1 : B ≤ w1.heap.size := Nat.le_trans hB (unhide HB1).size
          clear ho1 hb1
          go_wp2_with (at_builtin; refine app_cells rfl _ _ rfl B _ _ rfl ((unhide HO1).alloc _) ⟨w1.heap.size, 0, none⟩ [x[i]] 1 rfl (lit_cells _ _ _ rfl) (by simp; omega) (size_up' hw1 _) ?_)
          intro v2 w2 ho2 hb2
          have HO2 := hide ho2
          have HB2 := hide (below_al (unhide HB1) hw1 hb2)
          clear ho2 hb2
          go_wp2
          go_roundw
          case rel => exact ⟨i + 1, g ++ [92, x[i]], hlt, by go_num, by simp; omega, hide (by simpa using unhide HO2), HB2, HE2⟩
          case measure => simp [RowKit.intOf]; omega
      · have HE2 := hide (show esc x.data.toList = (g ++ [x[i]]) ++ esc (sfx x (i + 1)) by
          rw [unhide HE, sfx_cons x i hlt]; simp [esc, if_neg hs])
        have hq : ((x[i].toNat : Int) == 34) = false := beqf (fun h => hs (.inl (UInt8.toNat_inj.1 (Int.ofNat.inj h))))
        have hq2 : ((x[i].toNat : Int) == 92) = false := beqf (fun h => hs (.inr (UInt8.toNat_inj.1 (Int.ofNat.inj h))))
        clear hs
        go_wp2_with (at_builtin; refine app_cells rfl _ _ rfl B _ (bs ++ g) rfl ((unhide HO).alloc _) ⟨wr.heap.size, 0, none⟩ [x[i]] 1 rfl (lit_cells _ _ _ rfl) (by simp; omega) (size_up' hwr _) ?_)
        intro v2 w2 ho2 hb2
        have HO2 := hide ho2
        have HB2 := hide (below_al (unhide HB) hwr hb2)
        clear ho2 hb2
        go_wp2
        go_roundw
        case rel => exact ⟨i + 1, g ++ [x[i]], hlt, by go_num, by simp; omega, hide (by simpa using unhide HO2), HB2, HE2⟩
        case measure => simp [RowKit.intOf]; omega
    · go_wp2
      go_ret
      refine ⟨_, rfl, ?_, unhide HB⟩
      have e := unhide HE
      rw [sfx_end x i (by omega)] at e
      simp only [esc, List.append_nil] at e
      rw [e]; exact unhide HO
end Go.Proofs.Qxb6000614aDoor
