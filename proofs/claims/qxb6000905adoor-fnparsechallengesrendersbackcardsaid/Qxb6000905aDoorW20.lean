/-
  THE LAW FnParseChallengesRendersBack, walked. Seat b6000905aD.
-/
import Derived.Test.Qxb6000905aDoorW19
import Derived.BigQuiet
set_option linter.unusedVariables false
namespace Go.Proofs.Qxb6000905aDoor
open Go.RowKit Go.Lib

theorem tok_of {t : ByteArray} (h1 : t.toList.isEmpty = false) (h2 : allTokB t.data.toList = true) : Token t.data.toList := by
  refine ⟨fun e => ?_, fun c hc => List.all_eq_true.1 h2 c hc⟩
  rw [ByteArray.toList_eq, e] at h1
  cases h1
theorem toks_step {ss : List ByteArray} {j : Nat} (h : ∀ t ∈ ss.take j, Token t.data.toList) (hj : j < ss.length) (h2 : Token ss[j].data.toList) : ∀ t ∈ ss.take (j + 1), Token t.data.toList := by
  intro t ht
  rw [List.take_succ_eq_append_getElem hj] at ht
  rcases List.mem_append.1 ht with h' | h'
  · exact h t h'
  · rw [List.mem_singleton] at h'; subst h'; exact h2
theorem belN {B : Nat} {a b : World} (h : Below B a b) (n : Nat) : Below B a (b.drewN n) := h.trans ⟨rfl, rfl, rfl, Nat.le_refl _, fun _ _ => rfl⟩

theorem cloneM_any (p : Option Addr) (cap : Nat) (ms : List Mdl) (w : World) (hn : ms.length ≤ 1048576) (hp : p = none → cap = 0) (hV : ViewM w p ms) (hF : ∀ m ∈ ms, m.2.1.2.2.length ≤ 1048576 ∧ m.2.2.2.2.length ≤ 1048576) :
    Calls Tryd.prog 9 #[.slice p ms.length cap] w fun e w' => (∃ done p c, e = .returned (.slice p done.length c) ∧ done.map key = ms.map key ∧ ViewM w' p done) ∧ Below w.heap.size w w' := by
  cases p with
  | none =>
    have : ms = [] := by
      cases ms with
      | nil => rfl
      | cons a r => obtain ⟨_, _, h, _⟩ := hV (by simp); cases h
    subst this
    rw [hp rfl]
    refine (cloneM_nil w).mono ?_
    rintro e w' ⟨rfl, hw⟩
    have hw2 := hw.symm; subst hw2
    exact ⟨⟨[], none, 0, rfl, rfl, fun h => by cases h⟩, Below.refl _ _⟩
  | some ad => exact cloneM_some ad cap ms w hn hV hF
theorem render_any (p : Option Addr) (cap : Nat) (ms : List Mdl) (one : Bool) (w : World) (hn : ms.length ≤ 1048576) (hV : ViewM w p ms) (hF : ∀ m ∈ ms, m.Fit) (hB : mB ms ≤ 1048576) :
    Calls Tryd.prog 10 #[.slice p ms.length cap, .bool one] w fun e w' => (∃ p c, e = .returned (.slice p (css one ms).length c) ∧ ViewS w' p ((css one ms).map fun cs => bstr (hdr cs))) ∧ Below w.heap.size w w' := by
  cases one with
  | false =>
    refine (render_many p cap ms w hn hV hF (fun m hm => by have := chal_len m; have := mB_mem hm; omega)).mono ?_
    rintro e w' ⟨⟨q, c, rfl, _, _, hv⟩, hb⟩
    refine ⟨⟨q, c, ?_, ?_⟩, hb⟩
    · rw [svs_len, css, if_neg (by simp), List.length_map]
    · rw [css_vals, if_neg (by simp)]; exact hv
  | true =>
    refine (render_one p cap ms w hn hV hF (fun i hi => by have := hdr_len (ms.take i); have := mB_takes ms i; omega)).mono ?_
    rintro e w' ⟨⟨q, c, rfl, _, _, hv⟩, hb⟩
    refine ⟨⟨q, c, rfl, ?_⟩, hb⟩
    rw [css_vals, if_pos rfl]; exact hv
/-- ZZParseChallenges of a rendered header. -/
theorem parse_any (p : Option Addr) (cap : Nat) (ms : List Mdl) (one : Bool) (w : World) (hn : ms.length ≤ 1048576) (hG : ∀ m ∈ ms, Gd (key m)) (hB : mB ms ≤ 1048576) (hV : ViewS w p ((css one ms).map fun cs => bstr (hdr cs))) :
    Calls Tryd.prog 11 #[.slice p (css one ms).length cap] w fun e w' => OutC (ms.map fun m => pch (rcm m)) e w' ∧ Below w.heap.size w w' := by
  have := zzparse_any p cap (css one ms) w (by cases one <;> simp [css]; exact hn) ?_ ?_ (by rw [css_flat, List.length_map]; exact hn) hV
  · rw [css_flat, List.map_map] at this
    exact this
  · intro cs hcs
    cases one with
    | false =>
      obtain ⟨m, hm, rfl⟩ := List.mem_map.1 hcs
      exact good_rcm (hG m hm)
    | true =>
      have : cs = ms.map rcm := List.mem_singleton.1 hcs
      rw [this]
      exact good_all hG
  · intro cs hcs
    cases one with
    | false =>
      obtain ⟨m, hm, rfl⟩ := List.mem_map.1 hcs
      have := chal_len m
      have := mB_mem hm
      omega
    | true =>
      have : cs = ms.map rcm := List.mem_singleton.1 hcs
      rw [this]
      have := hdr_len ms
      omega

/-- What lies in memory while one challenge is compared. -/
structure Lp (x3 : World) (k : Nat) (sc t : ByteArray) (np vp : Option Addr) (nc vc : Nat) (ns vs : List ByteArray) (m n : Nat) (W : World) : Prop where
  bel : Below x3.heap.size x3 W
  a0 : W.cell? ⟨k, 0, none⟩ = some (.string sc)
  a1 : W.cell? ⟨k, 1, none⟩ = some (.slice np ns.length nc)
  a2 : W.cell? ⟨k, 2, none⟩ = some (.slice vp vs.length vc)
  b0 : W.cell? ⟨k + 1, 0, none⟩ = some (.string t)
  b1 : W.cell? ⟨k + 1, 1, none⟩ = some (.map (some m))
  vn : ViewS W np ns
  vv : ViewS W vp vs
  mp : MapAt W m n (prs2 ns vs)
theorem Lp.grew {x3 : World} {k : Nat} {sc t : ByteArray} {np vp : Option Addr} {nc vc : Nat} {ns vs : List ByteArray} {m n : Nat} {W W' : World} (h : Lp x3 k sc t np vp nc vc ns vs m n W) (hb : Below W.heap.size W W') : Lp x3 k sc t np vp nc vc ns vs m n W' :=
  ⟨h.bel.trans (hb.mono h.bel.size), (hb.cell (p := ⟨k, 0, none⟩) (World.block_lt_of_cell? W _ h.a0)).trans h.a0, (hb.cell (p := ⟨k, 1, none⟩) (World.block_lt_of_cell? W _ h.a1)).trans h.a1, (hb.cell (p := ⟨k, 2, none⟩) (World.block_lt_of_cell? W _ h.a2)).trans h.a2,
    (hb.cell (p := ⟨k + 1, 0, none⟩) (World.block_lt_of_cell? W _ h.b0)).trans h.b0, (hb.cell (p := ⟨k + 1, 1, none⟩) (World.block_lt_of_cell? W _ h.b1)).trans h.b1, h.vn.below hb, h.vv.below hb, World.ownsMap.kept h.mp (below_none hb) (by simp)⟩
theorem cell_of {w : World} {k j : Nat} {c : Array Value} {t : TypeId} {fz : Nat × Nat} {v : Value} (h : w.heap[k]? = some (.cells c t fz)) (hv : c[j]? = some v) : w.cell? ⟨k, j, none⟩ = some v := by
  unfold World.cell?
  rw [h]
  exact hv
theorem look_last {W : World} {m n : Nat} {ps : List (List UInt8 × List UInt8)} {ky vj : ByteArray} {K : List UInt8} (hK : ky.data.toList = K) (hm : MapAt W m n ps) (hk : ky.size ≤ maxLen) (hh : Maps.has (pmap ps) (.string K) = true ∧ ∀ z, (pmap ps).atKey (.string K) z = .lit (.string vj.data.toList)) :
    (Instr.lookup 33 (.map (some m)) (.string ky) true).run Tryd.prog W = .ok (.tuple #[.string vj, .bool true]) W := by
  have hmm : W.ownsMap (H := Unit) Tryd.prog 9 (plainElem Tryd.prog 9) m n (pmap ps) := hm
  obtain ⟨v, qs, hrun, hv⟩ := hmm.look_ok (Maps.string_keyed Tryd.underlying9) Tryd.underlying33 (Tryd.zeroValue9 _) (plainElem_string Tryd.underlying9 (s := ⟨#[]⟩) (Nat.zero_le _)) (WideMaps.keyOf_string_mk Tryd.underlying9 hk)
  obtain ⟨tv, rfl, hz, _⟩ := plainElem_string_inv Tryd.underlying9 hv
  rw [hK] at hrun hz
  rw [hh.1] at hrun
  have h1 := congrArg Prod.fst hz
  simp only [] at h1
  rw [hh.2] at h1
  simp only [DataW.lit.injEq, Lit.string.injEq] at h1
  rw [WideShapes.bytes_inj h1]
  exact hrun
theorem low_le (x : ByteArray) (h : x.size ≤ 1099511627776) : (⟨(toLowerA x.data.toList).toArray⟩ : ByteArray).size ≤ maxLen := by
  show (toLowerA x.data.toList).toArray.size ≤ _
  unfold toLowerA maxLen
  rw [List.size_toArray, List.length_map, size_list]
  omega
theorem Lp.start {x3 W : World} {sc t : ByteArray} {np vp : Option Addr} {nc vc : Nat} {ns vs : List ByteArray} {m n : Nat} (hb : Below x3.heap.size x3 W) (hn : ViewS W np ns) (hv : ViewS W vp vs) (hm : MapAt W m n (prs2 ns vs)) :
    Lp x3 W.heap.size sc t np vp nc vc ns vs m n ((W.alloc (.cells #[.string sc, .slice np ns.length nc, .slice vp vs.length vc] 27)).alloc (.cells #[.string t, .map (some m)] 35)) := by
  have g1 : Below W.heap.size W (W.alloc (.cells #[.string sc, .slice np ns.length nc, .slice vp vs.length vc] 27)) := (Below.refl _ _).alloc (Nat.le_refl _) _
  have g2 : Below W.heap.size W ((W.alloc (.cells #[.string sc, .slice np ns.length nc, .slice vp vs.length vc] 27)).alloc (.cells #[.string t, .map (some m)] 35)) := g1.alloc g1.size _
  have e1 : ((W.alloc (.cells #[.string sc, .slice np ns.length nc, .slice vp vs.length vc] 27)).alloc (.cells #[.string t, .map (some m)] 35)).heap[W.heap.size]? = some (.cells #[.string sc, .slice np ns.length nc, .slice vp vs.length vc] 27) := by
    rw [Below.heap_alloc _ _ _ (by simp)]; exact heap_alloc_new W _
  have e2 : ((W.alloc (.cells #[.string sc, .slice np ns.length nc, .slice vp vs.length vc] 27)).alloc (.cells #[.string t, .map (some m)] 35)).heap[W.heap.size + 1]? = some (.cells #[.string t, .map (some m)] 35) := by
    have := heap_alloc_new (W.alloc (.cells #[.string sc, .slice np ns.length nc, .slice vp vs.length vc] 27)) (.cells #[.string t, .map (some m)] 35)
    rwa [show (W.alloc (.cells #[.string sc, .slice np ns.length nc, .slice vp vs.length vc] 27)).heap.size = W.heap.size + 1 by simp] at this
  exact ⟨hb.trans (g2.mono hb.size), cell_of e1 rfl, cell_of e1 rfl, cell_of e1 rfl, cell_of e2 rfl, cell_of e2 rfl, hn.below g2, hv.below g2, World.ownsMap.kept hm (below_none g2) (by simp)⟩
theorem bdN (w : World) (n : Nat) : Below w.heap.size w (w.drewN n) := ⟨rfl, rfl, rfl, Nat.le_refl _, fun _ _ => rfl⟩
theorem view_at {W : World} {p : Option Addr} {ss : List ByteArray} (h : ViewS W p ss) {b o : Nat} (hp : p = some ⟨b, o, none⟩) {j : Nat} (hj : j < ss.length) : W.cell? ⟨b, o + j, none⟩ = some (.string ss[j]) := by
  obtain ⟨b', o', e, hc⟩ := h (by omega)
  rw [hp] at e
  cases e
  exact hc j hj

set_option maxHeartbeats 8000000 in
set_option maxRecDepth 100000 in
theorem law_any (p : Option Addr) (cap : Nat) (ms : List Mdl) (o1 : Bool) (w : World) (hn : ms.length ≤ maxLen) (hp : p = none → cap = 0) (hV : ViewM w p ms) :
    Calls Tryd.prog 3 #[.slice p ms.length cap, .bool o1] w fun e w' => e = .returned (.bool true) ∧ Below w.heap.size w w' := by
  have HC6 := hide (bytes_any p cap ms o1 w hn hV)
  have HV := hide hV
  have HP := hide hp
  have HN := hide hn
  clear hV hp
  unfold maxLen at hn
  go_enter Tryd.func3, Tryd.ntmps3
  go_wp2_with fail
  refine (unhide HC6).mono ?_
  rintro e w1 ⟨⟨r, rfl, HS⟩, hw⟩
  have hw2 := hw.symm; subst hw2
  clear hw HC6
  cases r with
  | false =>
    go_wp2
    go_ret
    exact ⟨rfl, Below.refl _ _⟩
  | true =>
    replace HS := hide (HS rfl)
    have hsml : (ms.length : Int) ≤ 1048576 := by have := (unhide HS).1; omega
    by_cases hbig : (65536 : Int) < (ms.length : Int)
    · go_wp2
      go_ret
      exact ⟨rfl, Below.refl _ _⟩
    have hsm : (ms.length : Int) ≤ 65536 := by omega
    clear hbig
    have HC7 := hide (modelBytes_any p cap ms w (unhide HN) (unhide HV) (fun m hm => ((unhide HS).2 m hm).1))
    go_wp2_with fail
    refine (unhide HC7).mono ?_
    rintro e w1 ⟨⟨r, rfl, hr⟩, hw⟩
    have hw2 := hw.symm; subst hw2
    clear hw HC7
    by_cases hbig : (1048576 : Int) < r
    · go_wp2
      go_ret
      exact ⟨rfl, Below.refl _ _⟩
    have hrs : r ≤ 1048576 := by omega
    have HMB : Hid (mB ms ≤ 1048576) := hide (by have := hr hrs; omega)
    clear hbig hr
    go_wp2
    go_loopw [5] (fun x wr => ∃ i : Nat, i ≤ ms.length ∧ x = .int .i64 i ∧ Hid (Below w.heap.size w wr) ∧ Hid (∀ m ∈ ms.take i, Gd (key m))) (fun x _ => ms.length - (RowKit.intOf x).toNat)
    case atStart => exact ⟨0, Nat.zero_le _, rfl, hide (Below.refl _ _), hide (fun m h => by cases h)⟩
    case round =>
      obtain ⟨i, hi, rfl, HB, HG⟩ := hrel
      by_cases hlt : i < ms.length
      · obtain ⟨b, o, rfl, hc⟩ := unhide HV (by omega)
        have CC : Hid (∀ W, Below w.heap.size w W → (W.cell? ⟨b, o + i * 3, none⟩ = some (.string ms[i].1) ∧ W.cell? ⟨b, o + i * 3 + 1, none⟩ = some ms[i].2.1.val ∧ W.cell? ⟨b, o + i * 3 + 2, none⟩ = some ms[i].2.2.val) ∧ ViewS W ms[i].2.1.1 ms[i].2.1.2.2) := hide fun W h => by
          obtain ⟨b', o', e', hc'⟩ := ((unhide HV).below h) (by omega)
          cases e'
          exact ⟨⟨(hc' i hlt).1, (hc' i hlt).2.1, (hc' i hlt).2.2.1⟩, (hc' i hlt).2.2.2.2.1.2.2.2⟩
        clear hc
        have HPS : Hid (Gd (key ms[i]) → ∀ m ∈ ms.take (i + 1), Gd (key m)) := hide fun h => smalls_step (P := fun m => Gd (key m)) (unhide HG) hlt h
        have sm := (unhide HS).2 _ (List.getElem_mem hlt)
        rcases hm : ms[i] with ⟨sc, ⟨np, nc, ns⟩, ⟨vp, vc, vs⟩⟩
        rw [hm] at CC HPS sm
        simp only [Sl.val] at CC
        clear hm
        have hsc : sc.size ≤ 1048576 := sm.1.1
        have HSN : Hid (∀ t ∈ ns, t.size ≤ 1048576) := hide sm.1.2.1
        have hnl : ns.length ≤ 1048576 := sm.2.1
        have hvl : vs.length ≤ 1048576 := sm.2.2
        clear sm
        obtain ⟨⟨c0, c1, c2⟩, _⟩ := unhide CC _ (unhide HB)
        by_cases h1 : (4096 : Int) < (ns.length : Int)
        · go_wp2_with fail
          go_quiet (fail)
          go_wp2
          go_ret
          exact ⟨rfl, belN (unhide HB) _⟩
        have h1' : (ns.length : Int) ≤ 4096 := by omega
        by_cases h2 : ns.length = vs.length
        · have h2b : ((ns.length : Int) != (vs.length : Int)) = false := by simp [h2]
          have H2 := hide h2
          clear h2 h1
          go_wp2_with fail
          go_quiet (fail)
          have HB1 := hide (belN (unhide HB) nq)
          generalize hwq : wr.drewN nq = wq at *
          clear hwq c0 c1 c2
          obtain ⟨⟨c0, c1, c2⟩, _⟩ := unhide CC _ (unhide HB1)
          cases he : sc.toList.isEmpty with
          | true =>
            go_wp2
            go_ret
            exact ⟨rfl, unhide HB1⟩
          | false =>
            have HC8 := hide (allTchar_any sc wq (by omega))
            go_wp2_with fail
            refine (unhide HC8).mono ?_
            rintro e w1 ⟨rfl, hw⟩
            have hw2 := hw.symm; subst hw2
            clear hw HC8
            cases ha : allTokB sc.data.toList with
            | false =>
              go_wp2
              go_ret
              exact ⟨rfl, unhide HB1⟩
            | true =>
              have HTK := hide (tok_of he ha)
              clear he ha
              go_wp2
              go_loopw [6] (fun y wx => ∃ j : Nat, j ≤ ns.length ∧ y = .int .i64 j ∧ Hid (Below w.heap.size w wx) ∧ Hid (∀ t ∈ ns.take j, Token t.data.toList)) (fun y _ => ns.length - (RowKit.intOf y).toNat)
              case atStart => exact ⟨0, Nat.zero_le _, rfl, HB1, hide (fun m h => by cases h)⟩
              case round =>
                clear HB1 c0 c1 c2
                obtain ⟨j, hj, rfl, HB2, HT⟩ := hrel
                obtain ⟨⟨c0, c1, c2⟩, V2⟩ := unhide CC _ (unhide HB2)
                by_cases hjl : j < ns.length
                · obtain ⟨bn, on, rfl, hcn⟩ := V2 (by omega)
                  have hcj := hcn j hjl
                  clear hcn V2
                  have HST := hide (fun h => toks_step (unhide HT) hjl h)
                  have hsz := unhide HSN _ (List.getElem_mem hjl)
                  generalize hq : ns[j] = q at *
                  clear hq
                  cases he : q.toList.isEmpty with
                  | true =>
                    go_wp2
                    go_ret
                    exact ⟨rfl, unhide HB2⟩
                  | false =>
                    have HC8 := hide (fun W => allTchar_any q W (by omega))
                    go_wp2_with fail
                    refine (unhide HC8 _).mono ?_
                    rintro e w1 ⟨rfl, hw⟩
                    have hw2 := hw.symm; subst hw2
                    clear hw HC8
                    cases ha : allTokB q.data.toList with
                    | false =>
                      go_wp2
                      go_ret
                      exact ⟨rfl, unhide HB2⟩
                    | true =>
                      have HTQ := hide (tok_of he ha)
                      clear he ha
                      go_wp2
                      go_roundw
                      case rel => exact ⟨j + 1, hjl, by go_num, HB2, hide (unhide HST (unhide HTQ))⟩
                      case measure => simp [RowKit.intOf]; omega
                · have HTA : Hid (∀ t ∈ ns, Token t.data.toList) := by
                    have := unhide HT
                    rw [List.take_of_length_le (by omega)] at this
                    exact hide this
                  clear HT V2
                  go_wp2
                  go_roundw
                  case rel => exact ⟨i + 1, hlt, by go_num, HB2, hide (unhide HPS ⟨show ns.length ≤ 4096 by omega, unhide H2, unhide HTK, unhide HTA⟩)⟩
                  case measure => simp [RowKit.intOf]; omega
        · have h2b : ((ns.length : Int) != (vs.length : Int)) = true := by simp; omega
          go_wp2_with fail
          go_quiet (fail)
          go_wp2
          go_ret
          exact ⟨rfl, belN (unhide HB) _⟩
      · have HGA : Hid (∀ m ∈ ms, Gd (key m)) := by
          have := unhide HG
          rw [List.take_of_length_le (by omega)] at this
          exact hide this
        clear HG
        have HC9 := hide (cloneM_any p cap ms wr (by omega) (unhide HP) ((unhide HV).below (unhide HB)) (fun m hm => ((unhide HS).2 m hm).2))
        go_wp2_with fail
        refine (unhide HC9).mono ?_
        rintro e x1 ⟨⟨done, p1, c1, rfl, hkey, V1⟩, b1⟩
        have HDG : Hid (∀ m ∈ done, Gd (key m)) := hide (key_all (unhide HGA) hkey)
        have HDS : Hid (∀ m ∈ done, Sk (key m)) := hide (key_all (P := Sk) (fun m hm => ((unhide HS).2 m hm).1) hkey)
        have HDB : Hid (mB done ≤ 1048576) := hide (by have := unhide HMB; rw [mB_key] at this ⊢; rw [hkey]; exact this)
        have hdl : done.length = ms.length := by have := congrArg List.length hkey; simpa using this
        have hdn : done.length ≤ 1048576 := by omega
        have HB1 := hide ((unhide HB).trans (b1.mono (unhide HB).size))
        have HV1 := hide V1
        clear hkey V1 b1 HC9 HGA HS HMB HB HV HP HN hdl hsm hsml hn hi hlt
        have HFit : Hid (∀ m ∈ done, m.Fit) := hide fun m hm => ⟨(unhide HDG m hm).2.1.symm, Nat.le_trans (unhide HDG m hm).1 (by decide), (unhide HDS m hm).2.2⟩
        have HC10 := hide (render_any p1 c1 done o1 x1 hdn (unhide HV1) (unhide HFit) (unhide HDB))
        go_wp2_with fail
        refine (unhide HC10).mono ?_
        rintro e x2 ⟨⟨p2, c2, rfl, V2⟩, b2⟩
        have HC11 := hide (parse_any p2 c2 done o1 x2 hdn (unhide HDG) (unhide HDB) V2)
        have HB2 := hide ((unhide HB1).trans (b2.mono (unhide HB1).size))
        have HV2 := hide ((unhide HV1).below b2)
        clear V2 b2 HC10 HB1 HV1
        go_wp2_with fail
        refine (unhide HC11).mono ?_
        rintro e x3 ⟨⟨g, c3, xs, M, rfl, hch, hcl⟩, b3⟩
        have HB3 := hide ((unhide HB2).trans (b3.mono (unhide HB2).size))
        have HV3 := hide ((unhide HV2).below b3)
        have HCh := hide hch
        have HCl := hide hcl
        clear hch hcl b3 HC11 HB2 HV2
        have hlen : (done.map fun m => pch (rcm m)).length = done.length := List.length_map _
        rw [hlen]
        have hne : ((done.length : Int) != (done.length : Int)) = false := by simp
        go_wp2
        clear hne hlen
        go_loopw [9] (fun y wx => ∃ i : Nat, i ≤ done.length ∧ y = .int .i64 i ∧ Hid (Below x3.heap.size x3 wx)) (fun y _ => done.length - (RowKit.intOf y).toNat)
        case atStart => exact ⟨0, Nat.zero_le _, rfl, hide (Below.refl _ _)⟩
        case round =>
          obtain ⟨i, hi, rfl, HB4⟩ := hrel
          by_cases hlt : i < done.length
          · obtain ⟨b, o, rfl, hc⟩ := ((unhide HV3).below (unhide HB4)) (by omega)
            obtain ⟨c0, c1, c2, ok⟩ := hc i hlt
            clear hc
            obtain ⟨t, m, n, y0, y1, ht, hmp⟩ := (unhide HCh).at i (by rw [List.length_map]; exact hlt)
            have z0 := ((unhide HB4).cell (p := ⟨g, i * 2, none⟩) (World.block_lt_of_cell? x3 _ (unhide HCl _ _ y0))).trans (unhide HCl _ _ y0)
            have z1 := ((unhide HB4).cell (p := ⟨g, i * 2 + 1, none⟩) (World.block_lt_of_cell? x3 _ (unhide HCl _ _ y1))).trans (unhide HCl _ _ y1)
            rw [List.getElem_map] at ht hmp
            have gd := unhide HDG _ (List.getElem_mem hlt)
            have sk := unhide HDS _ (List.getElem_mem hlt)
            rcases hm : done[i] with ⟨sc, ⟨np, nc, ns⟩, ⟨vp, vc, vs⟩⟩
            rw [hm] at c0 c1 c2 ok ht hmp gd sk
            simp only [Sl.val] at c0 c1 c2
            clear hm y0 y1
            have HT := hide (show t.data.toList = toLowerA sc.data.toList from ht)
            have HM := hide (show MapAt wr m n (prs2 ns vs) from World.ownsMap.kept hmp (below_none (unhide HB4)) (by simp))
            have HOK := hide ok
            have GD := hide gd
            have SK := hide sk
            clear ht hmp ok gd sk
            have z0a : ∀ ob, (wr.alloc ob).cell? ⟨g, i * 2, none⟩ = some (.string t) := fun ob => (World.cell?_alloc_lt _ _ _ (World.block_lt_of_cell? wr _ z0)).trans z0
            have z1a : ∀ ob, (wr.alloc ob).cell? ⟨g, i * 2 + 1, none⟩ = some (.map (some m)) := fun ob => (World.cell?_alloc_lt _ _ _ (World.block_lt_of_cell? wr _ z1)).trans z1
            obtain rfl : t = ⟨(toLowerA sc.data.toList).toArray⟩ := WideShapes.bytes_inj (unhide HT)
            clear HT
            have HSC := hide (show sc.size ≤ 1099511627776 by have := (unhide SK).1; have : sc.size ≤ 1048576 := this; omega)
            go_wp2_with fail
            have HL := hide (Lp.start (sc := sc) (t := ⟨(toLowerA sc.data.toList).toArray⟩) (nc := nc) (vc := vc) (unhide HB4) (unhide HOK).2.1.2.2.2 (unhide HOK).2.2.2.2.2 (unhide HM))
            clear z0 z1 z0a z1a c0 c1 c2 HM HOK HB4
            generalize hyy : (wr.alloc (Obj.cells #[Value.string sc, Value.slice np ns.length nc, Value.slice vp vs.length vc] 27)).alloc (Obj.cells #[Value.string ⟨(toLowerA sc.data.toList).toArray⟩, Value.map (some m)] 35) = y at *
            generalize hkk : wr.heap.size = k at *
            clear hyy hkk
            have HLd := hide ((unhide HL).grew (W' := y.drew) (bdN y 1))
            have HC12 := hide (fun W => lower_any sc W (unhide HSC))
            generalize hlc : (⟨(toLowerA sc.data.toList).toArray⟩ : ByteArray) = lsc at *
            clear hlc
            go_region_held3 (fun w' => w'.cell? ⟨k, 0, none⟩ = some (.string sc) ∧ w'.cell? ⟨k + 1, 0, none⟩ = some (.string lsc))
              (first | exact ⟨(unhide HLd).a0, (unhide HLd).b0⟩ | exact ⟨(unhide HL2).a0, (unhide HL2).b0⟩)
              ((go_at_call 12; refine (unhide HC12 _).mono ?_; rintro e y2 ⟨rfl, g2⟩; have HL2 := hide ((unhide HLd).grew g2); clear g2))
            clear HLd HL HC12
            have hnl : ns.length ≤ 4096 := (unhide GD).1
            have hsame : (lsc.toList == lsc.toList) = true := by simp
            go_wp2
            clear hsame
            go_loopw [12, 13] (fun d j wx => ∃ (jn dn : Nat), jn ≤ ns.length ∧ j = .int .i64 jn ∧ d = .int .i64 dn ∧ dn ≤ jn ∧ Hid (dn + D ((lks ns).drop jn) = D (lks ns)) ∧ Hid (Lp x3 k sc lsc np vp nc vc ns vs m n wx)) (fun _ j _ => ns.length - (RowKit.intOf j).toNat)
            case atStart => exact ⟨0, 0, Nat.zero_le _, rfl, rfl, Nat.le_refl _, hide (by simp), HL2⟩
            case round =>
              clear HL2
              obtain ⟨j, d, hj, rfl, rfl, hdj, HD, HL3⟩ := hrel
              have a1 := (unhide HL3).a1
              by_cases hjl : j < ns.length
              · have HDS := hide (D_step ns j hjl)
                have hjv : j < vs.length := by have := (unhide GD).2.1; have : ns.length = vs.length := this; omega
                have HPL := hide (fun h => par_last ns vs (unhide GD).2.1 j hjl h)
                obtain ⟨bn, on, rfl, _⟩ := (unhide HL3).vn (by omega)
                obtain ⟨bv, ov, rfl, _⟩ := (unhide HL3).vv (by omega)
                have HNZ := hide (fun (q : Nat) (hq : q < ns.length) => show ns[q].size ≤ 1099511627776 from Nat.le_trans ((unhide SK).2.1 _ (List.getElem_mem hq)) (by decide))
                have HZJ := hide (unhide HNZ j hjl)
                have HWN : Hid (∀ W, Lp x3 k sc lsc (some ⟨bn, on, none⟩) (some ⟨bv, ov, none⟩) nc vc ns vs m n W → W.cell? ⟨bn, on + j, none⟩ = some (.string ns[j])) := hide fun W h => view_at h.vn rfl hjl
                have HWV : Hid (∀ W, Lp x3 k sc lsc (some ⟨bn, on, none⟩) (some ⟨bv, ov, none⟩) nc vc ns vs m n W → W.cell? ⟨bv, ov + j, none⟩ = some (.string vs[j])) := hide fun W h => view_at h.vv rfl hjv
                generalize hnj : ns[j] = nj at *
                generalize hvj : vs[j] = vj at *
                clear hnj hvj
                have hwj : IntKind.i64.wrap ((j : Int) + 1) = (j : Int) + 1 := wrap_id (by omega) (by omega)
                go_wp2
                go_loopw [14, 15] (fun ov1 kk wz => ∃ q : Nat, q ≤ ns.length ∧ kk = .int .i64 q ∧ ov1 = .bool false ∧ Hid (decide (lk nj ∈ (lks ns).drop (j + 1)) = decide (lk nj ∈ (lks ns).drop q)) ∧ Hid (Lp x3 k sc lsc (some ⟨bn, on, none⟩) (some ⟨bv, ov, none⟩) nc vc ns vs m n wz)) (fun _ kk _ => ns.length - (RowKit.intOf kk).toNat)
                case atStart => exact ⟨j + 1, hjl, by go_num, rfl, hide rfl, HL3⟩
                case round =>
                  clear HL3 a1
                  obtain ⟨q, hq, rfl, rfl, HQ, HL4⟩ := hrel
                  have a1 := (unhide HL4).a1
                  have HL4d := hide ((unhide HL4).grew (W' := wr.drew) (bdN wr 1))
                  by_cases hql : q < ns.length
                  · have HST := hide (lks_step ns (lk nj) q hql)
                    have HWQ : Hid (∀ W, Lp x3 k sc lsc (some ⟨bn, on, none⟩) (some ⟨bv, ov, none⟩) nc vc ns vs m n W → W.cell? ⟨bn, on + q, none⟩ = some (.string ns[q])) := hide fun W h => view_at h.vn rfl hql
                    have HC13 := hide (fun W => sameLower_any nj ns[q] W (unhide HZJ) (unhide HNZ q hql))
                    have HSB := hide (show sameB nj.data.toList ns[q].data.toList = decide (lk nj = lk ns[q]) from rfl)
                    generalize hnq : ns[q] = nq at *
                    clear hnq
                    go_wp2_with fail
                    go_region_held3 (fun w' => w'.cell? ⟨k, 1, none⟩ = some (.slice (some ⟨bn, on, none⟩) ns.length nc) ∧ w'.cell? ⟨bn, on + j, none⟩ = some (.string nj) ∧ w'.cell? ⟨bn, on + q, none⟩ = some (.string nq))
                      (first | exact ⟨(unhide HL4d).a1, unhide HWN _ (unhide HL4d), unhide HWQ _ (unhide HL4d)⟩ | exact ⟨(unhide HL5).a1, unhide HWN _ (unhide HL5), unhide HWQ _ (unhide HL5)⟩)
                      ((go_at_call 13; refine (unhide HC13 _).mono ?_; rintro e y3 ⟨rfl, n3, hy3⟩; have HL5 := hide ((unhide HL4d).grew (W' := y3) (by rw [hy3]; exact bdN _ n3)); clear hy3))
                    clear HL4 HL4d HC13 a1
                    cases hsb : sameB nj.data.toList nq.data.toList with
                    | true =>
                      have HE : Hid (d + D ((lks ns).drop (j + 1)) = D (lks ns)) := by
                        rw [unhide HSB] at hsb
                        have h1 := unhide HQ
                        rw [unhide HST, hsb, Bool.true_or] at h1
                        have h2 := unhide HDS
                        rw [if_pos (of_decide_eq_true h1)] at h2
                        have h3 := unhide HD
                        exact hide (by omega)
                      clear HSB HST HQ
                      go_wp2
                      go_roundw
                      case rel => exact ⟨j + 1, d, hjl, by go_num, rfl, by omega, HE, HL5⟩
                      case measure => simp [RowKit.intOf]; omega
                    | false =>
                      have HE : Hid (decide (lk nj ∈ (lks ns).drop (j + 1)) = decide (lk nj ∈ (lks ns).drop (q + 1))) := by
                        rw [unhide HSB] at hsb
                        have h1 := unhide HQ
                        rw [unhide HST, hsb, Bool.false_or] at h1
                        exact hide h1
                      clear HSB HST HQ
                      go_wp2
                      go_roundw
                      case rel => exact ⟨q + 1, hql, by go_num, rfl, HE, HL5⟩
                      case measure => simp [RowKit.intOf]; omega
                  · have HNO : Hid (lk nj ∉ (lks ns).drop (j + 1)) := by
                      have h1 := unhide HQ
                      rw [lks_end ns (lk nj) q (by omega)] at h1
                      exact hide (of_decide_eq_false h1)
                    have HE : Hid (d + 1 + D ((lks ns).drop (j + 1)) = D (lks ns)) := by
                      have h2 := unhide HDS
                      rw [if_neg (unhide HNO)] at h2
                      have h3 := unhide HD
                      exact hide (by omega)
                    have HHH := hide (unhide HPL (unhide HNO))
                    have HC12 := hide (fun W => lower_any nj W (unhide HZJ))
                    have HKZ := hide (low_le nj (unhide HZJ))
                    have HK : Hid ((⟨(toLowerA nj.data.toList).toArray⟩ : ByteArray).data.toList = lk nj) := hide rfl
                    generalize hky : (⟨(toLowerA nj.data.toList).toArray⟩ : ByteArray) = ky at *
                    clear hky HQ HNO HPL
                    go_wp2_with fail
                    go_region_held3 (fun w' => w'.cell? ⟨k + 1, 1, none⟩ = some (.map (some m)) ∧ w'.cell? ⟨k, 1, none⟩ = some (.slice (some ⟨bn, on, none⟩) ns.length nc) ∧ w'.cell? ⟨bn, on + j, none⟩ = some (.string nj))
                      (first | exact ⟨(unhide HL4d).b1, (unhide HL4d).a1, unhide HWN _ (unhide HL4d)⟩ | exact ⟨(unhide HL5).b1, (unhide HL5).a1, unhide HWN _ (unhide HL5)⟩)
                      ((go_at_call 12; refine (unhide HC12 _).mono ?_; rintro e y3 ⟨rfl, g3⟩; have HL5 := hide ((unhide HL4d).grew g3); clear g3; have hrun := look_last (unhide HK) (unhide HL5).mp (unhide HKZ) (unhide HHH)))
                    clear HL4 HL4d HC12 a1 hrun
                    have a2 := (unhide HL5).a2
                    have vc1 := unhide HWV _ (unhide HL5)
                    have hsame : (vj.toList == vj.toList) = true := by simp
                    go_wp2
                    go_roundw
                    case rel => exact ⟨j + 1, d + 1, hjl, by go_num, by go_num, by omega, HE, HL5⟩
                    case measure => simp [RowKit.intOf]; omega
              · have hln := (unhide HL3).mp.len Tryd.underlying33 3
                have b1 := (unhide HL3).b1
                have hsz : Maps.size (pmap (prs2 ns vs)) = d := by
                  have e1 := unhide HD
                  have e2 := D_end ns
                  rw [show ns.length = j by omega] at e2
                  rw [par_size ns vs (unhide GD).2.1]
                  omega
                rw [hsz] at hln
                have hdd : ((d : Int) != (d : Int)) = false := by simp
                go_wp2
                go_roundw
                case rel => exact ⟨i + 1, hlt, by go_num, hide (unhide HL3).bel⟩
                case measure => simp [RowKit.intOf]; omega
          · go_wp2
            go_ret
            exact ⟨rfl, (unhide HB3).trans ((unhide HB4).mono (unhide HB3).size)⟩
end Go.Proofs.Qxb6000905aDoor
