/-
  THE PARSER's MEMORY, seat b6000614aD: the map of one challenge's parameters; the row of challenges; what each step keeps.
-/
import Derived.Test.Qxb6000614aDoorW3
import Derived.Maps.OwnSet
import Derived.Maps.StringElems
import Derived.Maps.AppendAt
import Derived.Deep.AppendLies
set_option linter.unusedVariables false
namespace Go.Proofs.Qxb6000614aDoor
open Go.RowKit Go.Lib

abbrev Ch := List UInt8 × List (List UInt8 × List UInt8)
def pput (D : DataW Unit) (p : List UInt8 × List UInt8) : DataW Unit := D.put (.string (toLowerA p.1)) (.lit (.string p.2))
def pmap (ps : List (List UInt8 × List UInt8)) : DataW Unit := ps.foldl pput (.map [])
theorem pmap_snoc (ps : List (List UInt8 × List UInt8)) (p : List UInt8 × List UInt8) : pmap (ps ++ [p]) = (pmap ps).put (.string (toLowerA p.1)) (.lit (.string p.2)) := by
  unfold pmap
  rw [List.foldl_append]; rfl
def MapAt (w : World) (m n : Nat) (ps : List (List UInt8 × List UInt8)) : Prop := w.ownsMap (H := Unit) Tryd.prog 9 (plainElem Tryd.prog 9) m n (pmap ps)

/-- The cells xs are the challenges cs; every map lies below M. -/
def Chs (w : World) (M : Nat) : List Ch → List Value → Prop
  | [], xs => xs = []
  | c :: cs, xs => ∃ (t : ByteArray) (m n : Nat) (r : List Value), xs = .string t :: .map (some m) :: r ∧ t.data.toList = toLowerA c.1 ∧ m < M ∧ MapAt w m n c.2 ∧ Chs w M cs r

theorem Chs.len {w : World} {M : Nat} : ∀ {cs : List Ch} {xs : List Value}, Chs w M cs xs → xs.length = cs.length * 2
  | [], xs, h => by have h' : xs = [] := h; rw [h']; rfl
  | c :: cs, xs, h => by
    obtain ⟨t, m, n, r, rfl, _, _, _, hr⟩ := h
    have := Chs.len hr
    simp only [List.length_cons, this]; omega
theorem Chs.mono {w : World} {M M' : Nat} (hM : M ≤ M') : ∀ {cs : List Ch} {xs : List Value}, Chs w M cs xs → Chs w M' cs xs
  | [], xs, h => h
  | c :: cs, xs, h => by
    obtain ⟨t, m, n, r, rfl, ht, hm, hmap, hr⟩ := h
    exact ⟨t, m, n, r, rfl, ht, by omega, hmap, Chs.mono hM hr⟩
theorem Chs.kept {w w' : World} {M : Nat} {row : Option Nat} (hg : w.grownBy w' row) (hr : ∀ j, row = some j → M ≤ j ∨ ∃ c t f, w.heap[j]? = some (.cells c t f)) : ∀ {cs : List Ch} {xs : List Value}, Chs w M cs xs → Chs w' M cs xs
  | [], xs, h => h
  | c :: cs, xs, h => by
    obtain ⟨t, m, n, r, rfl, ht, hm, hmap, h2⟩ := h
    refine ⟨t, m, n, r, rfl, ht, hm, ?_, Chs.kept hg hr h2⟩
    refine World.ownsMap.kept hmap hg ?_
    intro e
    rcases hr m e.symm with h3 | ⟨cc, tt, f, h3⟩
    · omega
    · obtain ⟨es, cl, h4, _⟩ := hmap
      rw [h3] at h4; cases h4
theorem Chs.snoc {w : World} {M : Nat} {c : Ch} {t : ByteArray} {m n : Nat} (ht : t.data.toList = toLowerA c.1) (hm : m < M) (hmap : MapAt w m n c.2) : ∀ {cs : List Ch} {xs : List Value}, Chs w M cs xs → Chs w M (cs ++ [c]) (xs ++ [.string t, .map (some m)])
  | [], xs, h => by
    have h' : xs = [] := h
    subst h'
    exact ⟨t, m, n, [], rfl, ht, hm, hmap, rfl⟩
  | d :: cs, xs, h => by
    obtain ⟨t', m', n', r, rfl, ht', hm', hmap', hr⟩ := h
    exact ⟨t', m', n', r ++ [.string t, .map (some m)], rfl, ht', hm', hmap', Chs.snoc ht hm hmap hr⟩

theorem below_none {w w' : World} (h : Below w.heap.size w w') : w.grownBy w' none := ⟨h.os, h.tape, h.output, h.size, fun k hk _ => h.block k hk⟩
theorem grown_none {w w' : World} (h : w.grownBy w' none) (r : Option Nat) : w.grownBy w' r := ⟨h.os, h.tape, h.output, h.size, fun k hk _ => h.block k hk (by simp)⟩

/-- Where the loop over challenges stands: w0 the world of the call, B its heap's size, bl the lexer's block, v the slice of challenges. -/
structure St (w0 : World) (B bl M : Nat) (s : ByteArray) (w : World) (i : Nat) (v : Value) (done : List Ch) : Prop where
  lx : Lx w bl s i
  le : i ≤ s.size
  row : ∃ xs, w.ownsRow B 35 2 v done.length xs ∧ Chs w M done xs
  bel : Below B w0 w
  bl : B ≤ bl
  few : done.length ≤ i
theorem St.size {w0 w : World} {B bl M i : Nat} {s : ByteArray} {v : Value} {done : List Ch} (h : St w0 B bl M s w i v done) : bl < w.heap.size := h.lx.lt

/-- A row of challenges is in no block that is not one. -/
theorem row_ne {w : World} {B : Nat} {v : Value} {n : Nat} {xs : List Value} (h : w.ownsRow B 35 2 v n xs) {k : Nat} (hk : ∀ c f, w.heap[k]? ≠ some (.cells c 35 f)) : v.ownBlock = none ∨ v.ownBlock ≠ some k := by
  rcases h.2 with ⟨rfl, _⟩ | ⟨g, cap, cur, rfl, _, hg, _⟩
  · exact .inl rfl
  · refine .inr ?_
    intro e
    simp only [Value.ownBlock, Option.some.injEq] at e
    subst e
    exact hk _ _ hg

/-- The lexer has moved on. -/
theorem St.lexed {w0 w w' : World} {B bl M i j : Nat} {s : ByteArray} {v : Value} {done : List Ch} (h : St w0 B bl M s w i v done) (hB : B ≤ w.heap.size) (hL : Lx w' bl s j) (hj : j ≤ s.size) (hij : i ≤ j) (hg : w.grownBy w' (some bl)) : St w0 B bl M s w' j v done := by
  obtain ⟨xs, hr, hc⟩ := h.row
  have hlx : w.heap[bl]? = some (.cells #[.string s, .int .i64 i] 52 (0, 0)) := h.lx
  refine ⟨hL, hj, ⟨xs, hr.kept hg (row_ne hr (by intro c f e; rw [hlx] at e; simp at e)), Chs.kept hg (by intro k e; cases e; exact .inr ⟨_, _, _, hlx⟩) hc⟩, h.bel.grown hg hB (by intro k e; cases e; exact h.bl), h.bl, by have := h.few; omega⟩
/-- The lexer has gone back. -/
theorem St.back {w0 w w' : World} {B bl M i j : Nat} {s : ByteArray} {v : Value} {done : List Ch} (h : St w0 B bl M s w i v done) (hB : B ≤ w.heap.size) (hL : Lx w' bl s j) (hj : j ≤ s.size) (hij : done.length ≤ j) (hg : w.grownBy w' (some bl)) : St w0 B bl M s w' j v done := by
  obtain ⟨xs, hr, hc⟩ := h.row
  have hlx : w.heap[bl]? = some (.cells #[.string s, .int .i64 i] 52 (0, 0)) := h.lx
  exact ⟨hL, hj, ⟨xs, hr.kept hg (row_ne hr (by intro c f e; rw [hlx] at e; simp at e)), Chs.kept hg (by intro k e; cases e; exact .inr ⟨_, _, _, hlx⟩) hc⟩, h.bel.grown hg hB (by intro k e; cases e; exact h.bl), h.bl, hij⟩
/-- Nothing old has turned. -/
theorem St.grew {w0 w w' : World} {B bl M i : Nat} {s : ByteArray} {v : Value} {done : List Ch} (h : St w0 B bl M s w i v done) (hB : B ≤ w.heap.size) (hg : w.grownBy w' none) : St w0 B bl M s w' i v done := by
  obtain ⟨xs, hr, hc⟩ := h.row
  exact ⟨(hg.block bl h.lx.lt (by simp)).trans h.lx, h.le, ⟨xs, hr.kept hg (by cases v.ownBlock <;> simp), Chs.kept hg (by intro k e; cases e) hc⟩, h.bel.grown hg hB (by intro k e; cases e), h.bl, h.few⟩
/-- A map above M has turned. -/
theorem St.mapped {w0 w w' : World} {B bl M i m n : Nat} {s : ByteArray} {v : Value} {done : List Ch} {ps : List (List UInt8 × List UInt8)} (h : St w0 B bl M s w i v done) (hB : B ≤ w.heap.size) (hm : MapAt w m n ps) (hM : M ≤ m) (hBm : B ≤ m) (hg : w.grownBy w' (some m)) : St w0 B bl M s w' i v done := by
  obtain ⟨xs, hr, hc⟩ := h.row
  obtain ⟨es, cl, hes, _⟩ := hm
  have hlx : w.heap[bl]? = some (.cells #[.string s, .int .i64 i] 52 (0, 0)) := h.lx
  have hne : some bl ≠ some m := by intro e; cases e; rw [hlx] at hes; cases hes
  exact ⟨(hg.block bl h.lx.lt hne).trans h.lx, h.le, ⟨xs, hr.kept hg (row_ne hr (by intro c f e; rw [hes] at e; cases e)), Chs.kept hg (by intro k e; cases e; exact .inl hM) hc⟩, h.bel.grown hg hB (by intro k e; cases e; exact hBm), h.bl, h.few⟩

/-- Inside one challenge: its block bc, its map bm. -/
structure St3 (w0 : World) (B bl M : Nat) (s : ByteArray) (v : Value) (done : List Ch) (bc bm : Nat) (tl : ByteArray) (w : World) (i : Nat) (ps : List (List UInt8 × List UInt8)) : Prop where
  st : St w0 B bl M s w i v done
  ch : w.heap[bc]? = some (.cells #[.string tl, .map (some bm)] 35 (0, 0))
  mp : MapAt w bm ps.length ps
  hM : M ≤ bm
  hB : B ≤ bm
  few : done.length + 1 + ps.length ≤ i
theorem St3.sz {w0 w : World} {B bl M i bc bm : Nat} {s tl : ByteArray} {v : Value} {done : List Ch} {ps : List (List UInt8 × List UInt8)} (h : St3 w0 B bl M s v done bc bm tl w i ps) : B ≤ w.heap.size := Nat.le_of_lt (Nat.lt_of_le_of_lt h.hB (World.ownsMap.lt h.mp))
theorem St3.back {w0 w w' : World} {B bl M i j bc bm : Nat} {s tl : ByteArray} {v : Value} {done : List Ch} {ps : List (List UInt8 × List UInt8)} (h : St3 w0 B bl M s v done bc bm tl w i ps) (hL : Lx w' bl s j) (hj : j ≤ s.size) (hij : done.length + 1 + ps.length ≤ j) (hg : w.grownBy w' (some bl)) : St3 w0 B bl M s v done bc bm tl w' j ps := by
  have hlx : w.heap[bl]? = some (.cells #[.string s, .int .i64 i] 52 (0, 0)) := h.st.lx
  have hlt : bc < w.heap.size := (Array.getElem?_eq_some_iff.1 h.ch).1
  refine ⟨h.st.back h.sz hL hj (by omega) hg, (hg.block bc hlt ?_).trans h.ch, World.ownsMap.kept h.mp hg ?_, h.hM, h.hB, hij⟩
  · intro e; cases e; have := h.ch; rw [hlx] at this; simp at this
  · intro e; cases e; obtain ⟨es, cl, hes, _⟩ := h.mp; rw [hlx] at hes; cases hes
theorem St3.lexed {w0 w w' : World} {B bl M i j bc bm : Nat} {s tl : ByteArray} {v : Value} {done : List Ch} {ps : List (List UInt8 × List UInt8)} (h : St3 w0 B bl M s v done bc bm tl w i ps) (hL : Lx w' bl s j) (hj : j ≤ s.size) (hij : i ≤ j) (hg : w.grownBy w' (some bl)) : St3 w0 B bl M s v done bc bm tl w' j ps :=
  h.back hL hj (by have := h.few; omega) hg
theorem St3.grew {w0 w w' : World} {B bl M i bc bm : Nat} {s tl : ByteArray} {v : Value} {done : List Ch} {ps : List (List UInt8 × List UInt8)} (h : St3 w0 B bl M s v done bc bm tl w i ps) (hg : w.grownBy w' none) : St3 w0 B bl M s v done bc bm tl w' i ps :=
  ⟨h.st.grew h.sz hg, (hg.block bc (Array.getElem?_eq_some_iff.1 h.ch).1 (by simp)).trans h.ch, World.ownsMap.kept h.mp hg (by simp), h.hM, h.hB, h.few⟩
/-- A parameter has been stored. -/
theorem St3.put {w0 w w' : World} {B bl M i bc bm : Nat} {s tl : ByteArray} {v : Value} {done : List Ch} {ps : List (List UInt8 × List UInt8)} {p : List UInt8 × List UInt8} (h : St3 w0 B bl M s v done bc bm tl w i ps) (hf : done.length + 1 + (ps.length + 1) ≤ i)
    (hm : w'.ownsMap (H := Unit) Tryd.prog 9 (plainElem Tryd.prog 9) bm (ps.length + 1) ((pmap ps).put (.string (toLowerA p.1)) (.lit (.string p.2)))) (hg : w.grownBy w' (some bm)) : St3 w0 B bl M s v done bc bm tl w' i (ps ++ [p]) := by
  have hlt : bc < w.heap.size := (Array.getElem?_eq_some_iff.1 h.ch).1
  refine ⟨h.st.mapped h.sz h.mp h.hM h.hB hg, (hg.block bc hlt ?_).trans h.ch, ?_, h.hM, h.hB, by rw [List.length_append]; simp only [List.length_cons, List.length_nil]; omega⟩
  · intro e; cases e; obtain ⟨es, cl, hes, _⟩ := h.mp; rw [h.ch] at hes; cases hes
  · unfold MapAt
    rw [pmap_snoc, List.length_append]
    exact hm
theorem St3.c1 {w0 w : World} {B bl M i bc bm : Nat} {s tl : ByteArray} {v : Value} {done : List Ch} {ps : List (List UInt8 × List UInt8)} (h : St3 w0 B bl M s v done bc bm tl w i ps) : w.cell? ⟨bc, 1, none⟩ = some (.map (some bm)) := by simp [World.cell?, h.ch]
theorem St3.c0 {w0 w : World} {B bl M i bc bm : Nat} {s tl : ByteArray} {v : Value} {done : List Ch} {ps : List (List UInt8 × List UInt8)} (h : St3 w0 B bl M s v done bc bm tl w i ps) : w.cell? ⟨bc, 0, none⟩ = some (.string tl) := by simp [World.cell?, h.ch]

/-- A challenge has begun. -/
theorem St.begin_ {w0 w : World} {B bl M i : Nat} {s tl : ByteArray} {v : Value} {done : List Ch} (h : St w0 B bl M s w i v done) (hM : M ≤ w.heap.size) (hB : B ≤ w.heap.size) (hf : done.length + 1 ≤ i) :
    St3 w0 B bl M s v done (w.heap.size + 1) w.heap.size tl ((w.alloc (.map #[] 0)).alloc (.cells #[.string tl, .map (some w.heap.size)] 35)) i [] := by
  have g1 := World.grownBy_alloc w (.map #[] 0) none
  have g2 := World.grownBy_alloc (w.alloc (.map #[] 0)) (.cells #[.string tl, .map (some w.heap.size)] 35) none
  refine ⟨(h.grew hB g1).grew (by simp; omega) g2, ?_, ?_, hM, hB, by simpa using hf⟩
  · have := heap_alloc_new (w.alloc (.map #[] 0)) (.cells #[.string tl, .map (some w.heap.size)] 35)
    simpa using this
  · exact (World.ownsMap_made w Tryd.prog 9 (plainElem Tryd.prog 9)).kept g2 (by simp)

/-- A challenge has been appended. -/
theorem St3.done {w0 w w' : World} {B bl M i bc bm : Nat} {s tl : ByteArray} {v v' : Value} {done : List Ch} {ps : List (List UInt8 × List UInt8)} {xs : List Value} {o : Obj} {sc : List UInt8} (h : St3 w0 B bl M s v done bc bm tl w i ps) (ht : tl.data.toList = toLowerA sc)
    (hc : Chs w M done xs) (hr : w.ownsRow B 35 2 v done.length xs) (hown : w'.ownsRow B 35 2 v' (done.length + 1) (xs ++ [.string tl, .map (some bm)])) (hg : (w.alloc o).grownBy w' v.ownBlock) : St w0 B bl w'.heap.size s w' i v' (done ++ [(sc, ps)]) := by
  have hlx : w.heap[bl]? = some (.cells #[.string s, .int .i64 i] 52 (0, 0)) := h.st.lx
  have ga := World.grownBy_alloc w o none
  have hsz : w.heap.size < w'.heap.size := Nat.lt_of_lt_of_le (by simp) hg.size
  have hrow : ∀ j, v.ownBlock = some j → ∃ c t f, (w.alloc o).heap[j]? = some (.cells c t f) := by
    intro j hj
    rcases hr.2 with ⟨rfl, _⟩ | ⟨g, cap, cur, rfl, _, hgg, _⟩
    · simp [Value.ownBlock] at hj
    · simp only [Value.ownBlock, Option.some.injEq] at hj
      subst hj
      exact ⟨_, _, _, (Below.heap_alloc w o g (Array.getElem?_eq_some_iff.1 hgg).1).trans hgg⟩
  have hMs : M ≤ w'.heap.size := by have := h.hM; have := World.ownsMap.lt h.mp; omega
  have hmne : some bm ≠ v.ownBlock := by
    intro e
    obtain ⟨c, t, f, he⟩ := hrow bm e.symm
    obtain ⟨es, cl, hes, _⟩ := World.ownsMap.kept h.mp ga (by simp)
    rw [he] at hes; cases hes
  have hmp : MapAt w' bm ps.length ps := World.ownsMap.kept (World.ownsMap.kept h.mp ga (by simp)) hg hmne
  have hlne : some bl ≠ v.ownBlock := by
    rcases row_ne hr (k := bl) (by intro c f e; rw [hlx] at e; simp at e) with h0 | h0
    · rw [h0]; simp
    · exact fun e => h0 e.symm
  refine ⟨?_, h.st.le, ⟨_, by rw [List.length_append]; exact hown, ?_⟩, ?_, h.st.bl, by have := h.few; rw [List.length_append]; simp only [List.length_cons, List.length_nil]; omega⟩
  · exact (hg.block bl (by have := h.st.lx.lt; simp; omega) hlne).trans ((Below.heap_alloc w o bl h.st.lx.lt).trans hlx)
  · have c1 := Chs.kept ga (by intro k e; cases e) hc
    have c2 := Chs.kept hg (fun j hj => .inr (hrow j hj)) c1
    exact Chs.snoc ht (by have := World.ownsMap.lt h.mp; omega) hmp (Chs.mono hMs c2)
  · exact (h.st.bel.alloc h.sz o).grown hg (by simp; have := h.sz; omega) (fun k e => (hr.lt k e).1)
end Go.Proofs.Qxb6000614aDoor
