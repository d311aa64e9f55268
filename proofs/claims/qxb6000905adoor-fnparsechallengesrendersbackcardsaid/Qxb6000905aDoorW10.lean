/-
  WALKS of seat b6000905aD: appends of bytes; appendQuoted.
-/
import Derived.Test.Qxb6000905aDoorW9
import Derived.Lib.AppendStr
import Derived.Deep.AppendLies
import Derived.Lib.OthersKept
set_option linter.unusedVariables false
namespace Go.Proofs.Qxb6000905aDoor
open Go.RowKit Go.Lib

def cellsB (l : List UInt8) : List Value := l.map fun c => .int .u8 c.toNat
theorem cellsB_append (a b : List UInt8) : cellsB (a ++ b) = cellsB a ++ cellsB b := by simp [cellsB]
theorem cells_one (l : List UInt8) : ∀ u : Value, u ∈ cellsB l → u.oneCell' = true := by
  intro u hu
  obtain ⟨c, _, rfl⟩ := List.mem_map.1 hu
  rfl
/-- The slice value v of the call's own holds l. -/
def Own (B : Nat) (w : World) (v : Value) (l : List UInt8) : Prop := w.ownsRow B 5 1 v l.length (cellsB l)
theorem Own.alloc {B : Nat} {w : World} {v : Value} {l : List UInt8} (h : Own B w v l) (o : Obj) : Own B (w.alloc o) v l := World.ownsRow.alloc h o
theorem Own.le {B : Nat} {w : World} {v : Value} {l : List UInt8} (h : Own B w v l) : True := trivial

/-- What a call that grows a row of bytes keeps: all below B, and every block that is no row of bytes. -/
def Kp (B : Nat) (w w' : World) : Prop := Below B w w' ∧ OthersKept 5 none w w'
theorem Kp.refl (B : Nat) (w : World) : Kp B w w := ⟨Below.refl B w, OthersKept.refl 5 none w⟩
theorem Kp.trans {B : Nat} {a b c : World} (h : Kp B a b) (k : Kp B b c) : Kp B a c := ⟨h.1.trans k.1, h.2.trans k.2⟩
theorem Kp.size {B : Nat} {a b : World} (h : Kp B a b) : a.heap.size ≤ b.heap.size := h.1.size
theorem Kp.alloc {B : Nat} {a b : World} (h : Kp B a b) (hB : B ≤ b.heap.size) (o : Obj) : Kp B a (b.alloc o) := ⟨h.1.alloc hB o, h.2.alloc o⟩
theorem Kp.drewN {B : Nat} {a b : World} (h : Kp B a b) (n : Nat) : Kp B a (b.drewN n) := ⟨h.1.trans ⟨rfl, rfl, rfl, Nat.le_refl _, fun _ _ => rfl⟩, h.2⟩
theorem own_row {B : Nat} {w : World} {v : Value} {l : List UInt8} (h : Own B w v l) : ∀ g, v.ownBlock = some g → ∃ c fz, w.heap[g]? = some (.cells c 5 fz) := by
  intro g hg
  rcases h.2 with ⟨rfl, _⟩ | ⟨g', cap, cur, rfl, _, hgg, _⟩
  · simp [Value.ownBlock] at hg
  · simp [Value.ownBlock] at hg
    subst hg
    exact ⟨cur, _, hgg⟩
/-- 'b = append(b, ..)' of bytes that lie in a block. -/
theorem app_cells {w : World} {ops : Array Oper} {rest : List Oper} {o : Oper} {a : Act} {Q : Exit → Act → World → Prop} (hgd : o.guard = none) (s x : Operand)
    (ho : o.op = .call { callee := .builtin .append, args := #[s, x], argTypes := #[44, 44] }) (B : Nat) (v : Value) (bs : List UInt8) (hs : a.eval s = v) (hown : Own B w v bs)
    (ad : Addr) (l : List UInt8) (c : Nat) (hx : a.eval x = .slice (some ad) l.length c) (hc : ∀ j u, (cellsB l)[j]? = some u → w.cell? (ad.add j) = some u) (hlen : bs.length + l.length ≤ 1099511627776) (hB : B ≤ w.heap.size)
    (h : ∀ v' w', Own B w' v' (bs ++ l) → Kp B w w' → wpList Tryd.prog ops Q rest (a.put o.dst v') w') : wpList Tryd.prog ops Q (o :: rest) a w := by
  obtain ⟨i0, hi, hz0, hz1, hz2⟩ := info_parts Tryd.info5
  refine wpList_append_own w hgd s x 44 ho B 5 i0 (.int .u8 0) 1 1 Tryd.underlying44 hi hz0 hz1 hz2 rfl (by decide) v bs.length (cellsB bs) hs hown ad l.length c (cellsB l) hx (by simp [cellsB]) hc (cells_one l) (by unfold maxLen; omega) (by omega) hB ?_
  intro v' w' h1 h2 _
  refine h v' w' ?_ ⟨(Below.refl B w).grown h2 hB (fun k e => (hown.lt k e).1), (OthersKept.refl 5 none w).grown h2 (own_row hown)⟩
  unfold Own
  rw [List.length_append, cellsB_append]; exact h1
/-- 'b = append(b, s...)' of a string. -/
theorem app_str {w : World} {ops : Array Oper} {rest : List Oper} {o : Oper} {a : Act} {Q : Exit → Act → World → Prop} (hgd : o.guard = none) (s x : Operand)
    (ho : o.op = .call { callee := .builtin .append, args := #[s, x], argTypes := #[44, 9] }) (B : Nat) (v : Value) (bs : List UInt8) (hs : a.eval s = v) (hown : Own B w v bs)
    (t : ByteArray) (hx : a.eval x = .string t) (hlen : bs.length + t.size ≤ 1099511627776) (hB : B ≤ w.heap.size)
    (h : ∀ v' w', Own B w' v' (bs ++ t.data.toList) → Kp B w w' → wpList Tryd.prog ops Q rest (a.put o.dst v') w') : wpList Tryd.prog ops Q (o :: rest) a w := by
  obtain ⟨i0, hi, hz0, hz1, hz2⟩ := info_parts Tryd.info5
  refine wpList_append_own_string w hgd s x 44 9 ho B 5 i0 Tryd.underlying44 Tryd.underlying9 hi hz0 hz1 hz2 v bs.length (cellsB bs) hs hown t hx (by unfold maxLen; omega) (by omega) hB ?_
  intro v' w' h1 h2 _
  refine h v' w' ?_ ⟨(Below.refl B w).grown h2 hB (fun k e => (hown.lt k e).1), (OthersKept.refl 5 none w).grown h2 (own_row hown)⟩
  unfold Own
  rw [List.length_append, cellsB_append]
  have e : t.data.toList.length = t.size := by simp
  rw [e]; exact h1
theorem size_up' {B : Nat} {w : World} (h : B ≤ w.heap.size) (o : Obj) : B ≤ (w.alloc o).heap.size := by simp; omega
theorem below_al {B : Nat} {w0 w w1 : World} {o : Obj} (h : Kp B w0 w) (hB : B ≤ w.heap.size) (h1 : Kp B (w.alloc o) w1) : Kp B w0 w1 := (h.alloc hB o).trans h1
/-- The cells of a literal. -/
theorem lit_cells (w : World) (l : List UInt8) (cs : Array Value) (hcs : cs.toList = cellsB l) : ∀ j u, (cellsB l)[j]? = some u → (w.alloc (.cells cs 5)).cell? ((⟨w.heap.size, 0, none⟩ : Addr).add j) = some u := by
  rw [← hcs]
  exact World.news_of_block (heap_alloc_new w _)

end Go.Proofs.Qxb6000905aDoor
