/-
  THE PARSER's MEMORY, seat b6000905aD: the map of one challenge's parameters; the row of challenges; what each step keeps.
-/
import Derived.Test.Qxb6000905aDoorW3
import Derived.Maps.OwnSet
import Derived.Maps.StringElems
import Derived.Maps.AppendAt
import Derived.Deep.AppendLies
set_option linter.unusedVariables false
namespace Go.Proofs.Qxb6000905aDoor
open Go.RowKit Go.Lib

abbrev Ch := List UInt8 × List (List UInt8 × List UInt8)
def pput (D : DataW Unit) (p : List UInt8 × List UInt8) : DataW Unit := D.put (.string (toLowerA p.1)) (.lit (.string p.2))
def pmap (ps : List (List UInt8 × List UInt8)) : DataW Unit := ps.foldl pput (.map [])
theorem pmap_snoc (ps : List (List UInt8 × List UInt8)) (p : List UInt8 × List UInt8) : pmap (ps ++ [p]) = (pmap ps).put (.string (toLowerA p.1)) (.lit (.string p.2)) := by
  unfold pmap
  rw [List.foldl_append]; rfl
def MapAt (w : World) (m n : Nat) (ps : List (List UInt8 × List UInt8)) : Prop := w.ownsMap (H := Unit) Tryd.prog 9 (plainElem Tryd.prog 9) m n (pmap ps)

/-- The cells xs are the challenges cs; every map lies below M. -/
def Chs (w : World) (M : Nat) : List Ch → List Value → Prop
  | [], xs => xs = []
  | c :: cs, xs => ∃ (t : ByteArray) (m n : Nat) (r : List Value), xs = .string t :: .map (some m) :: r ∧ t.data.toList = toLowerA c.1 ∧ m < M ∧ MapAt w m n c.2 ∧ Chs w M cs r

theorem Chs.mono {w : World} {M M' : Nat} (hM : M ≤ M') : ∀ {cs : List Ch} {xs : List Value}, Chs w M cs xs → Chs w M' cs xs
  | [], xs, h => h
  | c :: cs, xs, h => by
    obtain ⟨t, m, n, r, rfl, ht, hm, hmap, hr⟩ := h
    exact ⟨t, m, n, r, rfl, ht, by omega, hmap, Chs.mono hM hr⟩
theorem Chs.kept {w w' : World} {M : Nat} {row : Option Nat} (hg : w.grownBy w' row) (hr : ∀ j, row = some j → M ≤ j ∨ ∃ c t f, w.heap[j]? = some (.cells c t f)) : ∀ {cs : List Ch} {xs : List Value}, Chs w M cs xs → Chs w' M cs xs
  | [], xs, h => h
  | c :: cs, xs, h => by
    obtain ⟨t, m, n, r, rfl, ht, hm, hmap, h2⟩ := h
    refine ⟨t, m, n, r, rfl, ht, hm, ?_, Chs.kept hg hr h2⟩
    refine World.ownsMap.kept hmap hg ?_
    intro e
    rcases hr m e.symm with h3 | ⟨cc, tt, f, h3⟩
    · omega
    · obtain ⟨es, cl, h4, _⟩ := hmap
      rw [h3] at h4; cases h4
theorem Chs.snoc {w : World} {M : Nat} {c : Ch} {t : ByteArray} {m n : Nat} (ht : t.data.toList = toLowerA c.1) (hm : m < M) (hmap : MapAt w m n c.2) : ∀ {cs : List Ch} {xs : List Value}, Chs w M cs xs → Chs w M (cs ++ [c]) (xs ++ [.string t, .map (some m)])
  | [], xs, h => by
    have h' : xs = [] := h
    subst h'
    exact ⟨t, m, n, [], rfl, ht, hm, hmap, rfl⟩
  | d :: cs, xs, h => by
    obtain ⟨t', m', n', r, rfl, ht', hm', hmap', hr⟩ := h
    exact ⟨t', m', n', r ++ [.string t, .map (some m)], rfl, ht', hm', hmap', Chs.snoc ht hm hmap hr⟩

theorem below_none {w w' : World} (h : Below w.heap.size w w') : w.grownBy w' none := ⟨h.os, h.tape, h.output, h.size, fun k hk _ => h.block k hk⟩

/-- Where the loop over challenges stands: w0 the world of the call, B its heap's size, v the slice of challenges. -/
structure St (w0 : World) (B M : Nat) (w : World) (v : Value) (done : List Ch) : Prop where
  row : ∃ xs, w.ownsRow B 49 2 v done.length xs ∧ Chs w M done xs
  bel : Below B w0 w
  sz : B ≤ w.heap.size
  top : M ≤ w.heap.size
theorem row_ne {w : World} {B : Nat} {v : Value} {n : Nat} {xs : List Value} (h : w.ownsRow B 49 2 v n xs) {k : Nat} (hk : ∀ c f, w.heap[k]? ≠ some (.cells c 49 f)) : v.ownBlock = none ∨ v.ownBlock ≠ some k := by
  rcases h.2 with ⟨rfl, _⟩ | ⟨g, cap, cur, rfl, _, hg, _⟩
  · exact .inl rfl
  · refine .inr ?_
    intro e
    simp only [Value.ownBlock, Option.some.injEq] at e
    subst e
    exact hk _ _ hg
theorem St.grew {w0 w w' : World} {B M : Nat} {v : Value} {done : List Ch} (h : St w0 B M w v done) (hg : w.grownBy w' none) : St w0 B M w' v done := by
  obtain ⟨xs, hr, hc⟩ := h.row
  exact ⟨⟨xs, hr.kept hg (by cases v.ownBlock <;> simp), Chs.kept hg (by intro k e; cases e) hc⟩, h.bel.grown hg h.sz (by intro k e; cases e), Nat.le_trans h.sz hg.size, Nat.le_trans h.top hg.size⟩
theorem St.mapped {w0 w w' : World} {B M m n : Nat} {v : Value} {done : List Ch} {ps : List (List UInt8 × List UInt8)} (h : St w0 B M w v done) (hm : MapAt w m n ps) (hM : M ≤ m) (hBm : B ≤ m) (hg : w.grownBy w' (some m)) : St w0 B M w' v done := by
  obtain ⟨xs, hr, hc⟩ := h.row
  obtain ⟨es, cl, hes, _⟩ := hm
  exact ⟨⟨xs, hr.kept hg (row_ne hr (by intro c f e; rw [hes] at e; cases e)), Chs.kept hg (by intro k e; cases e; exact .inl hM) hc⟩, h.bel.grown hg h.sz (by intro k e; cases e; exact hBm), Nat.le_trans h.sz hg.size, Nat.le_trans h.top hg.size⟩

/-- Inside one challenge: its block bc, its map bm. -/
structure St3 (w0 : World) (B M : Nat) (v : Value) (done : List Ch) (bc bm : Nat) (tl : ByteArray) (w : World) (ps : List (List UInt8 × List UInt8)) : Prop where
  st : St w0 B M w v done
  ch : w.heap[bc]? = some (.cells #[.string tl, .map (some bm)] 49 (0, 0))
  mp : MapAt w bm ps.length ps
  hM : M ≤ bm
  hB : B ≤ bm
theorem St3.grew {w0 w w' : World} {B M bc bm : Nat} {tl : ByteArray} {v : Value} {done : List Ch} {ps : List (List UInt8 × List UInt8)} (h : St3 w0 B M v done bc bm tl w ps) (hg : w.grownBy w' none) : St3 w0 B M v done bc bm tl w' ps :=
  ⟨h.st.grew hg, (hg.block bc (Array.getElem?_eq_some_iff.1 h.ch).1 (by simp)).trans h.ch, World.ownsMap.kept h.mp hg (by simp), h.hM, h.hB⟩
theorem St3.put {w0 w w' : World} {B M bc bm : Nat} {tl : ByteArray} {v : Value} {done : List Ch} {ps : List (List UInt8 × List UInt8)} {p : List UInt8 × List UInt8} (h : St3 w0 B M v done bc bm tl w ps)
    (hm : w'.ownsMap (H := Unit) Tryd.prog 9 (plainElem Tryd.prog 9) bm (ps.length + 1) ((pmap ps).put (.string (toLowerA p.1)) (.lit (.string p.2)))) (hg : w.grownBy w' (some bm)) : St3 w0 B M v done bc bm tl w' (ps ++ [p]) := by
  have hlt : bc < w.heap.size := (Array.getElem?_eq_some_iff.1 h.ch).1
  refine ⟨h.st.mapped h.mp h.hM h.hB hg, (hg.block bc hlt ?_).trans h.ch, ?_, h.hM, h.hB⟩
  · intro e; cases e; obtain ⟨es, cl, hes, _⟩ := h.mp; rw [h.ch] at hes; cases hes
  · unfold MapAt
    rw [pmap_snoc, List.length_append]
    exact hm
theorem St3.c1 {w0 w : World} {B M bc bm : Nat} {tl : ByteArray} {v : Value} {done : List Ch} {ps : List (List UInt8 × List UInt8)} (h : St3 w0 B M v done bc bm tl w ps) : w.cell? ⟨bc, 1, none⟩ = some (.map (some bm)) := by simp [World.cell?, h.ch]
theorem St3.c0 {w0 w : World} {B M bc bm : Nat} {tl : ByteArray} {v : Value} {done : List Ch} {ps : List (List UInt8 × List UInt8)} (h : St3 w0 B M v done bc bm tl w ps) : w.cell? ⟨bc, 0, none⟩ = some (.string tl) := by simp [World.cell?, h.ch]
/-- A challenge has begun. -/
theorem St.begin_ {w0 w : World} {B M : Nat} {tl : ByteArray} {v : Value} {done : List Ch} (h : St w0 B M w v done) :
    St3 w0 B M v done (w.heap.size + 1) w.heap.size tl ((w.alloc (.map #[] 0)).alloc (.cells #[.string tl, .map (some w.heap.size)] 49)) [] := by
  have g1 := World.grownBy_alloc w (.map #[] 0) none
  have g2 := World.grownBy_alloc (w.alloc (.map #[] 0)) (.cells #[.string tl, .map (some w.heap.size)] 49) none
  refine ⟨(h.grew g1).grew g2, ?_, ?_, h.top, h.sz⟩
  · have := heap_alloc_new (w.alloc (.map #[] 0)) (.cells #[.string tl, .map (some w.heap.size)] 49)
    simpa using this
  · exact (World.ownsMap_made w Tryd.prog 9 (plainElem Tryd.prog 9)).kept g2 (by simp)
/-- A challenge has been appended. -/
theorem St3.done {w0 w w' : World} {B M bc bm : Nat} {tl : ByteArray} {v v' : Value} {done : List Ch} {ps : List (List UInt8 × List UInt8)} {xs : List Value} {o : Obj} {sc : List UInt8} (h : St3 w0 B M v done bc bm tl w ps) (ht : tl.data.toList = toLowerA sc)
    (hc : Chs w M done xs) (hr : w.ownsRow B 49 2 v done.length xs) (hown : w'.ownsRow B 49 2 v' (done.length + 1) (xs ++ [.string tl, .map (some bm)])) (hg : (w.alloc o).grownBy w' v.ownBlock) : St w0 B w'.heap.size w' v' (done ++ [(sc, ps)]) := by
  have ga := World.grownBy_alloc w o none
  have hsz : w.heap.size < w'.heap.size := Nat.lt_of_lt_of_le (by simp) hg.size
  have hrow : ∀ j, v.ownBlock = some j → ∃ c t f, (w.alloc o).heap[j]? = some (.cells c t f) := by
    intro j hj
    rcases hr.2 with ⟨rfl, _⟩ | ⟨g, cap, cur, rfl, _, hgg, _⟩
    · simp [Value.ownBlock] at hj
    · simp only [Value.ownBlock, Option.some.injEq] at hj
      subst hj
      exact ⟨_, _, _, (Below.heap_alloc w o g (Array.getElem?_eq_some_iff.1 hgg).1).trans hgg⟩
  have hMs : M ≤ w'.heap.size := by have := h.st.top; omega
  have hmne : some bm ≠ v.ownBlock := by
    intro e
    obtain ⟨c, t, f, he⟩ := hrow bm e.symm
    obtain ⟨es, cl, hes, _⟩ := World.ownsMap.kept h.mp ga (by simp)
    rw [he] at hes; cases hes
  have hmp : MapAt w' bm ps.length ps := World.ownsMap.kept (World.ownsMap.kept h.mp ga (by simp)) hg hmne
  have hsB := h.st.sz
  refine ⟨⟨_, by rw [List.length_append]; exact hown, ?_⟩, ?_, by omega, Nat.le_refl _⟩
  · have c1 := Chs.kept ga (by intro k e; cases e) hc
    have c2 := Chs.kept hg (fun j hj => .inr (hrow j hj)) c1
    exact Chs.snoc ht (by have := World.ownsMap.lt h.mp; omega) hmp (Chs.mono hMs c2)
  · exact (h.st.bel.alloc hsB o).grown hg (by simp; omega) (fun k e => (hr.lt k e).1)
end Go.Proofs.Qxb6000905aDoor
