/-
  Plain facts for the law FnParseChallengesRoundTrip, seat b6000614aD.
-/
import Derived.Test.Qxb6000614aDoorW14
import Derived.Test.Qxb6000614aDoorW5
set_option linter.unusedVariables false
namespace Go.Proofs.Qxb6000614aDoor
open Go.RowKit Go.Lib

theorem sB_mem : ∀ {ss : List ByteArray} {t : ByteArray}, t ∈ ss → t.size + 16 ≤ sB ss
  | a :: r, t, h => by
    unfold sB
    rcases List.mem_cons.1 h with rfl | h
    · omega
    · have := sB_mem h; omega
theorem sB_len : ∀ (ss : List ByteArray), ss.length * 16 ≤ sB ss
  | [] => Nat.le_refl _
  | a :: r => by
    have := sB_len r
    unfold sB
    rw [List.length_cons]; omega
theorem rps_len : ∀ (ns vs : List ByteArray) (f : Bool), (rps f (prms ns vs)).length ≤ sB ns + 2 * sB vs
  | [], vs, f => by simp [prms, rps]
  | n :: ns, [], f => by simp [prms, rps]
  | n :: ns, v :: vs, f => by
    have ih := rps_len ns vs false
    have e : prms (n :: ns) (v :: vs) = (n.data.toList, v.data.toList, quoted v.data.toList) :: prms ns vs := rfl
    rw [e, rps_one, List.length_append, one_len]
    have := esc_le v.data.toList
    rw [size_list] at this
    have hn : n.data.toList.length = n.size := size_list n
    unfold sB
    split <;> omega
theorem prms_good (ns vs : List ByteArray) (h : ∀ t ∈ ns, Token t.data.toList) : Good (prms ns vs) := by
  intro x hx
  unfold prms at hx
  obtain ⟨y, hy, rfl⟩ := List.mem_map.1 hx
  exact ⟨h _ (List.of_mem_zip hy).1, VT_quoted _⟩
/-- The header of two challenges. -/
def hd2 (sa : ByteArray) (na va : List ByteArray) (sb : ByteArray) (nb vb : List ByteArray) : List UInt8 := sa.data.toList ++ (rps true (prms na va) ++ (44 :: 32 :: (sb.data.toList ++ rps true (prms nb vb))))
theorem prs_hd2 (sa : ByteArray) (na va : List ByteArray) (sb : ByteArray) (nb vb : List ByteArray) (ha : Token sa.data.toList) (hb : Token sb.data.toList) (hna : ∀ t ∈ na, Token t.data.toList) (hnb : ∀ t ∈ nb, Token t.data.toList) :
    prs (hd2 sa na va sb nb vb) = [(sa.data.toList, prs2 na va), (sb.data.toList, prs2 nb vb)] := by
  have h := prs_hdr [(sa.data.toList, prms na va), (sb.data.toList, prms nb vb)] (by
    intro c hc
    simp only [List.mem_cons, List.not_mem_nil, or_false] at hc
    rcases hc with rfl | rfl
    · exact ⟨ha, prms_good na va hna⟩
    · exact ⟨hb, prms_good nb vb hnb⟩) (hd2 sa na va sb nb vb) (by
    unfold hd2
    rw [drop_none isSep _ (fun c hc => (tok_not c (tok_head ha _ c hc)).2.1)]
    rfl)
  rw [h]; rfl
theorem allTok (ns : List ByteArray) (h : (ns.all fun t => isTokenB t.data.toList) = true) : ∀ t ∈ ns, Token t.data.toList := fun t ht => (isTokenB_iff _).1 (List.all_eq_true.1 h t ht)

theorem ViewS.lt {w : World} {p : Option Addr} {ss : List ByteArray} (h : ViewS w p ss) : ∀ b o, p = some ⟨b, o, none⟩ → 0 < ss.length → b < w.heap.size := by
  intro b o hp hl
  obtain ⟨b', o', e, hc⟩ := h hl
  rw [hp] at e
  simp only [Option.some.injEq, Addr.mk.injEq] at e
  obtain ⟨rfl, rfl, _⟩ := e
  exact World.block_lt_of_cell? w _ (hc 0 hl)
theorem ViewS.below' {w w' : World} {B : Nat} {p : Option Addr} {ss : List ByteArray} (h : ViewS w p ss) (hB : w.heap.size ≤ B) (hb : Below B w w') : ViewS w' p ss := h.below (hb.mono hB)
theorem getD_cells (l : List UInt8) (j : Nat) (h : j < l.length) : (cellsB l)[j]? = some (.int .u8 l[j].toNat) := by
  unfold cellsB; rw [List.getElem?_map, List.getElem?_eq_getElem h]; rfl
/-- The call's own bytes as a string. -/
theorem Own.conv {B : Nat} {w : World} {v : Value} {l : List UInt8} (h : Own B w v l) : (convert 28 9 v).run Tryd.prog w = .ok (.string ⟨l.toArray⟩) w := by
  rcases h.2 with ⟨rfl, h0⟩ | ⟨g, cap, cur, rfl, _, hg, hc, _, hs, ht⟩
  · have : l = [] := List.eq_nil_of_length_eq_zero h0
    subst this
    rw [run_convert_bytes_string (P := Tryd.prog) w 28 9 5 none 0 0 Tryd.underlying28 Tryd.underlying5 Tryd.underlying9]
    simp [Conv.bytesToString]; rfl
  · refine run_convert_bytes_back (P := Tryd.prog) w 28 9 5 ⟨g, 0, none⟩ cap l Tryd.underlying28 Tryd.underlying5 Tryd.underlying9 ?_
    intro j hj
    exact World.ownsRow.cells h (g := g) rfl j _ (getD_cells l j hj)

/-- ZZParseChallenges of one header. -/
theorem parse13 (a o cap : Nat) (s : ByteArray) (w : World) (hs : s.size ≤ 1099511627776) (hc : w.cell? ⟨a, o, none⟩ = some (.string s)) :
    Calls Tryd.prog 13 #[.slice (some ⟨a, o, none⟩) 1 cap] w fun e w' => ∃ v xs M, e = .returned v ∧ w'.ownsRow w.heap.size 35 2 v (prs s.data.toList).length xs ∧ Chs w' M (prs s.data.toList) xs ∧ Below w.heap.size w w' := by
  have HC := hide (parse_one a o cap s w hs hc)
  clear hc
  go_enter Tryd.func13, Tryd.ntmps13
  go_wp2_with fail
  refine (unhide HC).mono ?_
  rintro e w' ⟨v, xs, M, rfl, h⟩
  have H := hide h
  clear h HC
  go_wp2
  go_ret
  exact ⟨v, xs, M, rfl, unhide H⟩
/-- Two challenges in memory. -/
theorem two_chs {w : World} {B M : Nat} {v : Value} {xs : List Value} {a b : List UInt8} {pa pb : List (List UInt8 × List UInt8)} (h : w.ownsRow B 35 2 v 2 xs) (hc : Chs w M [(a, pa), (b, pb)] xs) :
    ∃ g cap ta ma qa mb qb, ∃ tb : ByteArray, v = .slice (some ⟨g, 0, none⟩) 2 cap ∧ w.cell? ⟨g, 0, none⟩ = some (.string ta) ∧ w.cell? ⟨g, 1, none⟩ = some (.map (some ma)) ∧ w.cell? ⟨g, 2, none⟩ = some (.string tb) ∧ w.cell? ⟨g, 3, none⟩ = some (.map (some mb)) ∧
      ta = ⟨(toLowerA a).toArray⟩ ∧ tb = ⟨(toLowerA b).toArray⟩ ∧ MapAt w ma qa pa ∧ MapAt w mb qb pb := by
  obtain ⟨ta, ma, qa, r, rfl, hta, _, hma, hr⟩ := hc
  obtain ⟨tb, mb, qb, r2, rfl, htb, _, hmb, hr2⟩ := hr
  have e : r2 = [] := hr2
  subst e
  rcases h.2 with ⟨_, h0⟩ | ⟨g, cap, cur, rfl, rest⟩
  · cases h0
  · have hcell := fun j u hj => World.ownsRow.cells h (g := g) rfl j u hj
    have hadd : ∀ j, (⟨g, 0, none⟩ : Addr).add j = ⟨g, j, none⟩ := by intro j; unfold Addr.add; split <;> simp_all
    refine ⟨g, cap, ta, ma, qa, mb, qb, tb, rfl, ?_, ?_, ?_, ?_, WideShapes.bytes_inj (by rw [hta]), WideShapes.bytes_inj (by rw [htb]), hma, hmb⟩
    · have := hcell 0 _ rfl; rwa [hadd] at this
    · have := hcell 1 _ rfl; rwa [hadd] at this
    · have := hcell 2 _ rfl; rwa [hadd] at this
    · have := hcell 3 _ rfl; rwa [hadd] at this
end Go.Proofs.Qxb6000614aDoor
