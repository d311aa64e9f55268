/-
  Plain facts for the law FnParseChallengesRendersBack, seat b6000905aD.
-/
import Derived.Test.Qxb6000905aDoorW18
set_option linter.unusedVariables false
namespace Go.Proofs.Qxb6000905aDoor
open Go.RowKit Go.Lib Go.Maps

theorem sB_mem : ∀ {ss : List ByteArray} {t : ByteArray}, t ∈ ss → t.size + 16 ≤ sB ss
  | a :: r, t, h => by
    unfold sB
    rcases List.mem_cons.1 h with rfl | h
    · omega
    · have := sB_mem h; omega
theorem sB_len : ∀ (ss : List ByteArray), ss.length * 16 ≤ sB ss
  | [] => Nat.le_refl _
  | a :: r => by
    have := sB_len r
    unfold sB
    rw [List.length_cons]; omega
theorem rps_len : ∀ (ns vs : List ByteArray) (f : Bool), (rps f (prms ns vs)).length ≤ sB ns + 2 * sB vs
  | [], vs, f => by simp [prms, rps]
  | n :: ns, [], f => by simp [prms, rps]
  | n :: ns, v :: vs, f => by
    have ih := rps_len ns vs false
    have e : prms (n :: ns) (v :: vs) = (n.data.toList, v.data.toList, quoted v.data.toList) :: prms ns vs := rfl
    rw [e, rps_one, List.length_append, one_len]
    have := esc_le v.data.toList
    rw [size_list] at this
    have hn : n.data.toList.length = n.size := size_list n
    unfold sB
    split <;> omega

abbrev Ky := ByteArray × List ByteArray × List ByteArray
def Gd (k : Ky) : Prop := k.2.1.length ≤ 4096 ∧ k.2.1.length = k.2.2.length ∧ Token k.1.data.toList ∧ (∀ t ∈ k.2.1, Token t.data.toList)
def Sk (k : Ky) : Prop := k.1.size ≤ 1048576 ∧ (∀ t ∈ k.2.1, t.size ≤ 1048576) ∧ (∀ t ∈ k.2.2, t.size ≤ 1048576)
theorem key_all {P : Ky → Prop} {ms ds : List Mdl} (h : ∀ m ∈ ms, P (key m)) (e : ds.map key = ms.map key) : ∀ m ∈ ds, P (key m) := by
  intro m hm
  have : key m ∈ ms.map key := by rw [← e]; exact List.mem_map.2 ⟨m, hm, rfl⟩
  obtain ⟨m', h', e'⟩ := List.mem_map.1 this
  rw [← e']; exact h m' h'
def kB : List Ky → Nat
  | [] => 0
  | k :: r => 64 + k.1.size + sB k.2.1 + sB k.2.2 + kB r
theorem mB_key : ∀ ms : List Mdl, mB ms = kB (ms.map key)
  | [] => rfl
  | m :: r => by
    have := mB_key r
    simp only [mB, List.map_cons, kB, this]
    rfl
theorem mB_mem : ∀ {ms : List Mdl} {m : Mdl}, m ∈ ms → m.sz ≤ mB ms
  | a :: r, m, h => by
    unfold mB
    rcases List.mem_cons.1 h with rfl | h
    · omega
    · have := mB_mem h; omega
theorem mB_takes (ms : List Mdl) (i : Nat) : mB (ms.take i) ≤ mB ms := by
  have := mB_append (ms.take i) (ms.drop i)
  rw [List.take_append_drop] at this
  omega
theorem chal_len (m : Mdl) : (hdr [rcm m]).length + 64 ≤ 2 * m.sz := by
  rw [hdr_one]
  unfold chal Mdl.sz
  rw [List.length_append, size_list]
  have := rps_len m.2.1.2.2 m.2.2.2.2 true
  omega
theorem hdr_len : ∀ (ms : List Mdl), (hdr (ms.map rcm)).length ≤ 2 * mB ms
  | [] => by simp [hdr]
  | [m] => by
    have := chal_len m
    simp only [List.map_cons, List.map_nil, mB]
    omega
  | m :: d :: r => by
    have ih := hdr_len (d :: r)
    have h1 := chal_len m
    simp only [List.map_cons] at ih ⊢
    rw [hdr, mB]
    rw [show hdr [rcm m] = (rcm m).1 ++ rps true (rcm m).2 from rfl, List.length_append] at h1
    simp only [List.length_append, List.length_cons]
    omega
theorem good_rcm {m : Mdl} (h : Gd (key m)) : GoodCQ [rcm m] := by
  intro c hc
  rw [List.mem_singleton] at hc
  subst hc
  refine ⟨h.2.2.1, fun x hx => ?_⟩
  obtain ⟨y, hy, rfl⟩ := List.mem_map.1 hx
  exact ⟨h.2.2.2 _ (List.of_mem_zip hy).1, rfl⟩
theorem good_all {ms : List Mdl} (h : ∀ m ∈ ms, Gd (key m)) : GoodCQ (ms.map rcm) := by
  intro c hc
  obtain ⟨m, hm, rfl⟩ := List.mem_map.1 hc
  exact good_rcm (h m hm) _ (List.mem_singleton.2 rfl)
/-- The lists of challenges in the values. -/
def css (one : Bool) (ms : List Mdl) : List (List RC) := if one then [ms.map rcm] else ms.map fun m => [rcm m]
theorem css_flat (one : Bool) (ms : List Mdl) : (css one ms).flatten = ms.map rcm := by
  cases one
  · show (ms.map fun m => [rcm m]).flatten = _
    induction ms with
    | nil => rfl
    | cons a r ih => simp only [List.map_cons, List.flatten_cons, ih]; rfl
  · show [ms.map rcm].flatten = _
    simp
theorem css_vals (one : Bool) (ms : List Mdl) : ((css one ms).map fun cs => bstr (hdr cs)) = if one then [bstr (hdr (ms.map rcm))] else svs ms := by
  cases one
  · show (ms.map fun m => [rcm m]).map _ = svs ms
    rw [List.map_map]; rfl
  · rfl

/-! ### the map and the count -/
def lk (x : ByteArray) : List UInt8 := toLowerA x.data.toList
def lks (ns : List ByteArray) : List (List UInt8) := ns.map lk
def D : List (List UInt8) → Nat
  | [] => 0
  | k :: r => (if k ∈ r then 0 else 1) + D r
def E (h : List UInt8 → Bool) : List (List UInt8) → Nat
  | [] => 0
  | k :: r => (if k ∈ r ∨ h k = true then 0 else 1) + E h r
theorem E_false : ∀ l, E (fun _ => false) l = D l
  | [] => rfl
  | k :: r => by simp [E, D, E_false r]
theorem E_congr {h h' : List UInt8 → Bool} (e : ∀ k, h k = h' k) : ∀ l, E h l = E h' l
  | [] => rfl
  | k :: r => by simp only [E, E_congr e r, e k]
theorem E_put (h h' : List UInt8 → Bool) (k : List UInt8) (hk : h' k = true) (ho : ∀ j, j ≠ k → h' j = h j) : ∀ l, E h l = E h' l + (if k ∈ l ∧ h k = false then 1 else 0)
  | [] => by simp [E]
  | q :: s => by
    have ih := E_put h h' k hk ho s
    simp only [E]
    by_cases hq : q = k
    · subst hq
      rw [ih, hk]
      cases hh : h q
      · by_cases hs : q ∈ s <;> simp [hs]; omega
      · simp
    · rw [ih, ho q hq]
      have : (k ∈ q :: s) ↔ (k ∈ s) := by simp [List.mem_cons, Ne.symm hq]
      simp only [this]; omega
theorem key_str (l : List UInt8) : WideAt.IsKeyLit (.string l) := trivial
theorem size_fold : ∀ (ps : List (List UInt8 × List UInt8)) (M : DataW Unit), Tidy M → Maps.size (ps.foldl pput M) = Maps.size M + E (fun k => Maps.has M (.string k)) (ps.map fun p => toLowerA p.1)
  | [], M, _ => by simp [E]
  | p :: r, M, hM => by
    have ht : Tidy (pput M p) := hM.put (key_str _) _
    rw [List.foldl_cons, size_fold r (pput M p) ht, List.map_cons, E]
    have h1 : Maps.size (pput M p) = Maps.size M + (if Maps.has M (.string (toLowerA p.1)) = true then 0 else 1) := by
      unfold pput
      rw [size_put hM]
      split <;> rfl
    have h2 := E_put (fun k => Maps.has M (.string k)) (fun k => Maps.has (pput M p) (.string k)) (toLowerA p.1) (has_put_same hM.isMap (key_str _) _) (fun j hj => has_put_other (by simpa using hj) _) (r.map fun p => toLowerA p.1)
    rw [h1, h2]
    cases hh : Maps.has M (.string (toLowerA p.1))
    · by_cases hs : toLowerA p.1 ∈ r.map fun p => toLowerA p.1
      · simp [hs]; omega
      · simp [hs]; omega
    · simp
theorem size_pmap (ps : List (List UInt8 × List UInt8)) : Maps.size (pmap ps) = D (ps.map fun p => toLowerA p.1) := by
  unfold pmap
  rw [size_fold ps _ tidy_empty, ← E_false]
  rw [show Maps.size (.map [] : DataW Unit) = 0 from rfl, Nat.zero_add]
  exact E_congr (fun k => rfl) _
theorem tidy_fold : ∀ (ps : List (List UInt8 × List UInt8)) (M : DataW Unit), Tidy M → Tidy (ps.foldl pput M)
  | [], M, h => h
  | p :: r, M, h => tidy_fold r _ (h.put (key_str _) _)
theorem fold_other (k : List UInt8) : ∀ (ps : List (List UInt8 × List UInt8)) (M : DataW Unit), (k ∉ ps.map fun p => toLowerA p.1) → Maps.has (ps.foldl pput M) (.string k) = Maps.has M (.string k) ∧ ∀ z, (ps.foldl pput M).atKey (.string k) z = M.atKey (.string k) z
  | [], M, _ => ⟨rfl, fun _ => rfl⟩
  | p :: r, M, h => by
    rw [List.map_cons, List.mem_cons, not_or] at h
    have ih := fold_other k r (pput M p) h.2
    have hne : Lit.string k ≠ .string (toLowerA p.1) := by simpa using h.1
    rw [List.foldl_cons]
    exact ⟨ih.1.trans (has_put_other hne _), fun z => (ih.2 z).trans (atKey_put_other hne _ _)⟩
/-- The last of equal names wins. -/
theorem last_wins (a : List (List UInt8 × List UInt8)) (p : List UInt8 × List UInt8) (r : List (List UInt8 × List UInt8)) (h : toLowerA p.1 ∉ r.map fun p => toLowerA p.1) : Maps.has (pmap (a ++ p :: r)) (.string (toLowerA p.1)) = true ∧ ∀ z, (pmap (a ++ p :: r)).atKey (.string (toLowerA p.1)) z = .lit (.string p.2) := by
  unfold pmap
  rw [List.foldl_append, List.foldl_cons]
  have ht := (tidy_fold a _ tidy_empty)
  have := fold_other (toLowerA p.1) r (pput (a.foldl pput (.map [])) p) h
  exact ⟨this.1.trans (has_put_same ht.isMap (key_str _) _), fun z => (this.2 z).trans (atKey_put_same ht.isMap (key_str _) _ _)⟩

def prs2 (ns vs : List ByteArray) : List (List UInt8 × List UInt8) := vals (prms ns vs)
theorem prs2_keys : ∀ (ns vs : List ByteArray), ns.length = vs.length → ((prs2 ns vs).map fun p => toLowerA p.1) = lks ns
  | [], vs, _ => rfl
  | n :: ns, [], h => by cases h
  | n :: ns, v :: vs, h => by
    have ih := prs2_keys ns vs (by simpa using h)
    show toLowerA n.data.toList :: _ = lk n :: lks ns
    rw [← ih]; rfl
theorem prs2_split (ns vs : List ByteArray) (h : ns.length = vs.length) (j : Nat) (hj : j < ns.length) : prs2 ns vs = (prs2 ns vs).take j ++ (ns[j].data.toList, (vs[j]'(by omega)).data.toList) :: prs2 (ns.drop (j + 1)) (vs.drop (j + 1)) := by
  have hl : j < (prs2 ns vs).length := by unfold prs2 vals prms; simp; omega
  have h1 : (prs2 ns vs).drop j = (ns[j].data.toList, (vs[j]'(by omega)).data.toList) :: prs2 (ns.drop (j + 1)) (vs.drop (j + 1)) := by
    rw [List.drop_eq_getElem_cons hl]
    congr 1
    · unfold prs2 vals prms; simp
    · unfold prs2 vals prms
      rw [← List.map_drop, ← List.map_drop, List.zip_eq_zipWith, List.drop_zipWith, ← List.zip_eq_zipWith]
  rw [← h1, List.take_append_drop]
/-- What the map says of a name that no later one overrides. -/
theorem par_last (ns vs : List ByteArray) (h : ns.length = vs.length) (j : Nat) (hj : j < ns.length) (hk : lk ns[j] ∉ (lks ns).drop (j + 1)) :
    Maps.has (pmap (prs2 ns vs)) (.string (lk ns[j])) = true ∧ ∀ z, (pmap (prs2 ns vs)).atKey (.string (lk ns[j])) z = .lit (.string (vs[j]'(by omega)).data.toList) := by
  have hs := prs2_split ns vs h j hj
  rw [hs]
  refine last_wins _ (ns[j].data.toList, (vs[j]'(by omega)).data.toList) _ ?_
  rw [prs2_keys _ _ (by simp; omega)]
  unfold lks at hk ⊢
  rw [← List.map_drop] at hk
  exact hk
theorem par_size (ns vs : List ByteArray) (h : ns.length = vs.length) : Maps.size (pmap (prs2 ns vs)) = D (lks ns) := by rw [size_pmap, prs2_keys ns vs h]
theorem D_step (ns : List ByteArray) (j : Nat) (hj : j < ns.length) : D ((lks ns).drop j) = (if lk ns[j] ∈ (lks ns).drop (j + 1) then 0 else 1) + D ((lks ns).drop (j + 1)) := by
  have hl : j < (lks ns).length := by unfold lks; simpa using hj
  rw [List.drop_eq_getElem_cons hl, D]
  have : (lks ns)[j] = lk ns[j] := List.getElem_map lk
  rw [this]
theorem D_end (ns : List ByteArray) : D ((lks ns).drop ns.length) = 0 := by
  rw [List.drop_eq_nil_of_le (by unfold lks; simp)]; rfl
theorem lks_step (ns : List ByteArray) (K : List UInt8) (k : Nat) (hk : k < ns.length) : decide (K ∈ (lks ns).drop k) = (decide (K = lk ns[k]) || decide (K ∈ (lks ns).drop (k + 1))) := by
  have hl : k < (lks ns).length := by unfold lks; simpa using hk
  have : (lks ns)[k] = lk ns[k] := List.getElem_map lk
  rw [List.drop_eq_getElem_cons hl, this]
  simp [List.mem_cons]
theorem lks_end (ns : List ByteArray) (K : List UInt8) (k : Nat) (hk : ns.length ≤ k) : decide (K ∈ (lks ns).drop k) = false := by
  rw [List.drop_eq_nil_of_le (by unfold lks; simpa using hk)]; simp
end Go.Proofs.Qxb6000905aDoor
