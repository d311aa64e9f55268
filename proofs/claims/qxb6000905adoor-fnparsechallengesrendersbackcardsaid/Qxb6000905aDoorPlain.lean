/-
  THE PLAIN LAYER of seat b6000905aD: the cutters and the parser of challenges over lists of bytes; a rendered header parses back. No dump, no walk.
-/
import GoSem.Core.Utf8
namespace Go.Proofs.Qxb6000905aDoor

def isTok (c : UInt8) : Bool := (97 ≤ c.toNat && c.toNat ≤ 122) || (65 ≤ c.toNat && c.toNat ≤ 90) || (48 ≤ c.toNat && c.toNat ≤ 57) || [33, 35, 36, 37, 38, 39, 42, 43, 45, 46, 94, 95, 96, 124, 126].contains c.toNat
def isWs (c : UInt8) : Bool := c == 32 || c == 9
def isSep (c : UInt8) : Bool := c == 44 || c == 32 || c == 9
def noSep (c : UInt8) : Bool := !isSep c

/-- cutValue behind its opening quote. -/
def qv : List UInt8 → List UInt8 → List UInt8 × List UInt8
  | acc, [] => (acc, [])
  | acc, c :: r =>
    if c = 34 then (acc, r)
    else if c = 92 then (match r with
      | [] => (acc ++ [92], [])
      | d :: r' => qv (acc ++ [d]) r')
    else qv (acc ++ [c]) r
/-- cutValue. -/
def valueL (l : List UInt8) : List UInt8 × List UInt8 :=
  match l with
  | [] => ([], [])
  | c :: r => if c = 34 then qv [] r else ((c :: r).takeWhile noSep, (c :: r).dropWhile noSep)

/-- The parameters of one challenge, and what is left. -/
def params : Nat → List UInt8 → List (List UInt8 × List UInt8) × List UInt8
  | 0, l => ([], l)
  | f + 1, l =>
    let a := l.dropWhile isWs
    let nm := a.takeWhile isTok
    let b := (a.dropWhile isTok).dropWhile isWs
    if nm = [] ∨ b.head? ≠ some 61 then ([], l)
    else
      let vd := valueL (b.tail.dropWhile isWs)
      let d := vd.2.dropWhile isWs
      if d.head? = some 44 then ((nm, vd.1) :: (params f d.tail).1, (params f d.tail).2) else ([(nm, vd.1)], d)
def prm (l : List UInt8) : List (List UInt8 × List UInt8) × List UInt8 := params (l.length + 1) l

def parse : Nat → List UInt8 → List (List UInt8 × List (List UInt8 × List UInt8))
  | 0, _ => []
  | f + 1, l =>
    let a := l.dropWhile isSep
    let sc := a.takeWhile isTok
    if sc = [] then [] else (sc, (prm (a.dropWhile isTok)).1) :: parse f (prm (a.dropWhile isTok)).2
def prs (l : List UInt8) : List (List UInt8 × List (List UInt8 × List UInt8)) := parse (l.length + 1) l

/-! ### lengths -/
theorem dropWhile_le (p : UInt8 → Bool) (l : List UInt8) : (l.dropWhile p).length ≤ l.length := (List.dropWhile_suffix p).length_le
theorem takeWhile_add (p : UInt8 → Bool) (l : List UInt8) : (l.takeWhile p).length + (l.dropWhile p).length = l.length := by
  have := congrArg List.length (List.takeWhile_append_dropWhile (p := p) (l := l))
  rw [List.length_append] at this
  exact this
theorem qv_len : ∀ (l acc : List UInt8), (qv acc l).2.length ≤ l.length
  | [], acc => by unfold qv; simp
  | [c], acc => by
    unfold qv
    split
    · simp
    · split
      · simp
      · unfold qv; simp
  | c :: d :: r, acc => by
    unfold qv
    split
    · simp
    · split
      · have := qv_len r (acc ++ [d]); simp; omega
      · have := qv_len (d :: r) (acc ++ [c]); simp at this ⊢; omega
theorem valueL_len (l : List UInt8) : (valueL l).2.length ≤ l.length := by
  unfold valueL
  split
  · simp
  · split
    · have := qv_len (by assumption) []; simp; omega
    · exact dropWhile_le _ _
theorem tail_lt {l : List UInt8} {c : UInt8} (h : l.head? = some c) : l.tail.length < l.length := by
  cases l with
  | nil => cases h
  | cons a r => simp

theorem len_round (l : List UInt8) : (valueL ((((l.dropWhile isWs).dropWhile isTok).dropWhile isWs).tail.dropWhile isWs)).2.length ≤ l.length := by
  have h1 := valueL_len ((((l.dropWhile isWs).dropWhile isTok).dropWhile isWs).tail.dropWhile isWs)
  have h4 := dropWhile_le isWs (((l.dropWhile isWs).dropWhile isTok).dropWhile isWs).tail
  have h5 : (((l.dropWhile isWs).dropWhile isTok).dropWhile isWs).tail.length ≤ (((l.dropWhile isWs).dropWhile isTok).dropWhile isWs).length := by simp
  have h6 := dropWhile_le isWs ((l.dropWhile isWs).dropWhile isTok)
  have h7 := dropWhile_le isTok (l.dropWhile isWs)
  have h8 := dropWhile_le isWs l
  omega
theorem params_fuel : ∀ (f g : Nat) (l : List UInt8), l.length < f → l.length < g → params f l = params g l
  | 0, _, l, h, _ => by omega
  | _ + 1, 0, l, _, h => by omega
  | f + 1, g + 1, l, hf, hg => by
    unfold params
    simp only
    split
    · rfl
    · split
      · rename_i hd
        have h1 := len_round l
        have h2 := dropWhile_le isWs (valueL ((((l.dropWhile isWs).dropWhile isTok).dropWhile isWs).tail.dropWhile isWs)).2
        have h3 := tail_lt hd
        rw [params_fuel f g _ (by omega) (by omega)]
      · rfl
/-- One round of the loop over parameters. -/
theorem prm_eq (l : List UInt8) : prm l =
    (if (l.dropWhile isWs).takeWhile isTok = [] ∨ (((l.dropWhile isWs).dropWhile isTok).dropWhile isWs).head? ≠ some 61 then ([], l)
    else if ((valueL ((((l.dropWhile isWs).dropWhile isTok).dropWhile isWs).tail.dropWhile isWs)).2.dropWhile isWs).head? = some 44 then (((l.dropWhile isWs).takeWhile isTok, (valueL ((((l.dropWhile isWs).dropWhile isTok).dropWhile isWs).tail.dropWhile isWs)).1) :: (prm ((valueL ((((l.dropWhile isWs).dropWhile isTok).dropWhile isWs).tail.dropWhile isWs)).2.dropWhile isWs).tail).1, (prm ((valueL ((((l.dropWhile isWs).dropWhile isTok).dropWhile isWs).tail.dropWhile isWs)).2.dropWhile isWs).tail).2) else ([((l.dropWhile isWs).takeWhile isTok, (valueL ((((l.dropWhile isWs).dropWhile isTok).dropWhile isWs).tail.dropWhile isWs)).1)], (valueL ((((l.dropWhile isWs).dropWhile isTok).dropWhile isWs).tail.dropWhile isWs)).2.dropWhile isWs)) := by
  unfold prm
  rw [params]
  simp only
  split
  · rfl
  · split
    · rename_i hd
      have h1 := len_round l
      have h2 := dropWhile_le isWs (valueL ((((l.dropWhile isWs).dropWhile isTok).dropWhile isWs).tail.dropWhile isWs)).2
      have h3 := tail_lt hd
      rw [params_fuel l.length (((valueL ((((l.dropWhile isWs).dropWhile isTok).dropWhile isWs).tail.dropWhile isWs)).2.dropWhile isWs).tail.length + 1) _ (by omega) (by omega)]
    · rfl
theorem prm_len (l : List UInt8) : (prm l).2.length ≤ l.length := by
  have : ∀ (n : Nat) (l : List UInt8), l.length ≤ n → (prm l).2.length ≤ l.length := by
    intro n
    induction n with
    | zero =>
      intro l hl
      have : l = [] := List.eq_nil_of_length_eq_zero (by omega)
      subst this; decide
    | succ n ih =>
      intro l hl
      rw [prm_eq]
      have h1 := len_round l
      have h2 := dropWhile_le isWs (valueL ((((l.dropWhile isWs).dropWhile isTok).dropWhile isWs).tail.dropWhile isWs)).2
      split
      · exact Nat.le_refl _
      · split
        · rename_i hd
          have h3 := tail_lt hd
          have := ih ((valueL ((((l.dropWhile isWs).dropWhile isTok).dropWhile isWs).tail.dropWhile isWs)).2.dropWhile isWs).tail (by omega)
          simp only
          omega
        · simp only; omega
  exact this l.length l (Nat.le_refl _)
theorem parse_fuel : ∀ (f g : Nat) (l : List UInt8), l.length < f → l.length < g → parse f l = parse g l
  | 0, _, l, h, _ => by omega
  | _ + 1, 0, l, _, h => by omega
  | f + 1, g + 1, l, hf, hg => by
    unfold parse
    simp only
    split
    · rfl
    · rename_i hs
      have h1 := takeWhile_add isTok (l.dropWhile isSep)
      have h2 := dropWhile_le isSep l
      have h3 := prm_len ((l.dropWhile isSep).dropWhile isTok)
      have h4 : 0 < ((l.dropWhile isSep).takeWhile isTok).length := List.length_pos_iff.2 hs
      rw [parse_fuel f g _ (by omega) (by omega)]
/-- One round of the loop over challenges. -/
theorem prs_eq (l : List UInt8) : prs l =
    (if (l.dropWhile isSep).takeWhile isTok = [] then [] else ((l.dropWhile isSep).takeWhile isTok, (prm ((l.dropWhile isSep).dropWhile isTok)).1) :: prs (prm ((l.dropWhile isSep).dropWhile isTok)).2) := by
  unfold prs
  rw [parse]
  split
  · rfl
  · rename_i hs
    have h1 := takeWhile_add isTok (l.dropWhile isSep)
    have h2 := dropWhile_le isSep l
    have h3 := prm_len ((l.dropWhile isSep).dropWhile isTok)
    have h4 : 0 < ((l.dropWhile isSep).takeWhile isTok).length := List.length_pos_iff.2 hs
    rw [parse_fuel l.length ((prm ((l.dropWhile isSep).dropWhile isTok)).2.length + 1) _ (by omega) (by omega)]
theorem prs_less (l : List UInt8) (h : (l.dropWhile isSep).takeWhile isTok ≠ []) : (prm ((l.dropWhile isSep).dropWhile isTok)).2.length < l.length := by
  have h1 := takeWhile_add isTok (l.dropWhile isSep)
  have h2 := dropWhile_le isSep l
  have h3 := prm_len ((l.dropWhile isSep).dropWhile isTok)
  have h4 : 0 < ((l.dropWhile isSep).takeWhile isTok).length := List.length_pos_iff.2 h
  omega

/-! ### what is rendered -/
def esc : List UInt8 → List UInt8
  | [] => []
  | c :: r => (if c = 34 ∨ c = 92 then [92, c] else [c]) ++ esc r
theorem qv_nil (acc : List UInt8) : qv acc [] = (acc, []) := by unfold qv; rfl
theorem qv_end (acc r : List UInt8) : qv acc (34 :: r) = (acc, r) := by unfold qv; rfl
theorem qv_bs (acc r : List UInt8) (d : UInt8) : qv acc (92 :: d :: r) = qv (acc ++ [d]) r := by
  conv => lhs; unfold qv
  rfl
theorem qv_bs0 (acc : List UInt8) : qv acc [92] = (acc ++ [92], []) := by unfold qv; rfl
theorem qv_byte (acc r : List UInt8) (c : UInt8) (h1 : ¬ c = 34) (h2 : ¬ c = 92) : qv acc (c :: r) = qv (acc ++ [c]) r := by
  conv => lhs; unfold qv
  rw [if_neg h1, if_neg h2]
theorem qv_esc : ∀ (v acc r : List UInt8), qv acc (esc v ++ 34 :: r) = (acc ++ v, r)
  | [], acc, r => by
    unfold esc
    rw [List.nil_append, qv_end, List.append_nil]
  | c :: v, acc, r => by
    unfold esc
    by_cases h : c = 34 ∨ c = 92
    · rw [if_pos h]
      simp only [List.cons_append, List.nil_append]
      rw [qv_bs, qv_esc v (acc ++ [c]) r]; simp
    · rw [if_neg h]
      have h1 : ¬ c = 34 := fun e => h (.inl e)
      have h2 : ¬ c = 92 := fun e => h (.inr e)
      simp only [List.cons_append, List.nil_append]
      rw [qv_byte _ _ _ h1 h2, qv_esc v (acc ++ [c]) r]; simp
/-- A value's text: read back whatever follows, if that is nothing or begins with a comma. -/
def VT (rv v : List UInt8) : Prop := ∀ t : List UInt8, (t = [] ∨ t.head? = some 44) → valueL (rv ++ t) = (v, t) ∧ (rv ++ t).dropWhile isWs = rv ++ t
def quoted (v : List UInt8) : List UInt8 := 34 :: (esc v ++ [34])
theorem VT_quoted (v : List UInt8) : VT (quoted v) v := by
  intro t _
  unfold quoted
  constructor
  · simp only [List.cons_append, List.append_assoc, List.nil_append]
    unfold valueL
    simp only [if_true]
    rw [qv_esc]; simp
  · simp [isWs]
def Token (l : List UInt8) : Prop := l ≠ [] ∧ ∀ c ∈ l, isTok c = true

theorem tok_not : ∀ c : UInt8, isTok c = true → isWs c = false ∧ isSep c = false ∧ c ≠ 61 ∧ c ≠ 44 ∧ c ≠ 34 := by
  intro c h
  have key : ∀ i : Fin 256, isTok (UInt8.ofNat i.val) = true → isWs (UInt8.ofNat i.val) = false ∧ isSep (UInt8.ofNat i.val) = false ∧ UInt8.ofNat i.val ≠ 61 ∧ UInt8.ofNat i.val ≠ 44 ∧ UInt8.ofNat i.val ≠ 34 := by decide +kernel
  have := key ⟨c.toNat, UInt8.toNat_lt c⟩
  simp only [UInt8.ofNat_toNat] at this
  exact this h
theorem take_tok {sc : List UInt8} (h : ∀ c ∈ sc, isTok c = true) (t : List UInt8) (ht : ∀ c, t.head? = some c → isTok c = false) : (sc ++ t).takeWhile isTok = sc ∧ (sc ++ t).dropWhile isTok = t := by
  induction sc with
  | nil =>
    cases t with
    | nil => exact ⟨rfl, rfl⟩
    | cons c r => simp [ht c rfl]
  | cons c r ih =>
    have hc := h c (List.mem_cons_self ..)
    have := ih (fun x hx => h x (List.mem_cons_of_mem _ hx))
    simp [hc, this]
theorem drop_none (p : UInt8 → Bool) (l : List UInt8) (h : ∀ c, l.head? = some c → p c = false) : l.dropWhile p = l := by
  cases l with
  | nil => rfl
  | cons c r => simp [h c rfl]
theorem tok_head {sc : List UInt8} (h : Token sc) (t : List UInt8) : ∀ c, (sc ++ t).head? = some c → isTok c = true := by
  intro c hc
  cases sc with
  | nil => exact absurd rfl h.1
  | cons a r => simp at hc; subst hc; exact h.2 a (List.mem_cons_self ..)

/-- One parameter: its name, its value, its value's text. -/
def rps : Bool → List (List UInt8 × List UInt8 × List UInt8) → List UInt8
  | _, [] => []
  | first, (n, _, rv) :: r => (if first then [32] else [44, 32]) ++ (n ++ (61 :: (rv ++ rps false r)))
def Good (ps : List (List UInt8 × List UInt8 × List UInt8)) : Prop := ∀ x ∈ ps, Token x.1 ∧ VT x.2.2 x.2.1
def vals (ps : List (List UInt8 × List UInt8 × List UInt8)) : List (List UInt8 × List UInt8) := ps.map fun x => (x.1, x.2.1)

/-- What may follow a challenge: nothing, or a comma, a blank and a scheme that is no parameter's name. -/
def After (t rest : List UInt8) : Prop := (t = [] ∧ rest = []) ∨ ∃ sc u, Token sc ∧ t = 44 :: 32 :: (sc ++ u) ∧ rest = sc ++ u ∧ (∀ c, u.head? = some c → isTok c = false) ∧ (u.dropWhile isWs).head? ≠ some 61

theorem after_head {t rest : List UInt8} (h : After t rest) : t = [] ∨ t.head? = some 44 := by
  rcases h with ⟨h, _⟩ | ⟨sc, u, _, h, _⟩
  · exact .inl h
  · rw [h]; exact .inr rfl
/-- The comma has been read: no parameter follows. -/
theorem prm_scheme {sc u : List UInt8} (h : Token sc) (hu : ∀ c, u.head? = some c → isTok c = false) (hn : (u.dropWhile isWs).head? ≠ some 61) : prm (32 :: (sc ++ u)) = ([], 32 :: (sc ++ u)) := by
  have e1 : (32 :: (sc ++ u)).dropWhile isWs = sc ++ u := by
    have : isWs 32 = true := rfl
    rw [List.dropWhile_cons, if_pos this, drop_none isWs _ (fun c hc => (tok_not c (tok_head h u c hc)).1)]
  rw [prm_eq, e1, (take_tok h.2 u hu).2, if_pos (.inr hn)]
theorem prm_empty : prm [] = ([], []) := by decide

/-- The text of parameters behind a blank or nothing. -/
def ptext (ws : List UInt8) (ps : List (List UInt8 × List UInt8 × List UInt8)) (t : List UInt8) : List UInt8 := ws ++ ((ps.head?.map (·.1)).getD [] ++ (61 :: ((ps.head?.map (·.2.2)).getD [] ++ (rps false ps.tail ++ t))))
theorem sep_scheme {sc u : List UInt8} (h : Token sc) : (32 :: (sc ++ u)).dropWhile isSep = sc ++ u := by
  have i2 : isSep 32 = true := rfl
  rw [List.dropWhile_cons, if_pos i2, drop_none isSep _ (fun c hc => (tok_not c (tok_head h u c hc)).2.1)]
theorem prm_false : ∀ (ps : List (List UInt8 × List UInt8 × List UInt8)) (t rest : List UInt8), Good ps → ps ≠ [] → After t rest → ∀ ws, ws = [32] ∨ ws = [] → (prm (ptext ws ps t)).1 = vals ps ∧ (prm (ptext ws ps t)).2.dropWhile isSep = rest
  | [], _, _, _, h, _, _, _ => absurd rfl h
  | (n, v, rv) :: r, t, rest, hg, _, ha, ws, hws => by
    obtain ⟨hn, hv⟩ := hg (n, v, rv) (List.mem_cons_self ..)
    have hx : ptext ws ((n, v, rv) :: r) t = ws ++ (n ++ (61 :: (rv ++ (rps false r ++ t)))) := rfl
    rw [hx]
    have hs : ∀ c, (61 :: (rv ++ (rps false r ++ t)) : List UInt8).head? = some c → isTok c = false := by intro c hc; simp at hc; subst hc; decide
    have e1 : (ws ++ (n ++ (61 :: (rv ++ (rps false r ++ t))))).dropWhile isWs = n ++ (61 :: (rv ++ (rps false r ++ t))) := by
      have h0 := drop_none isWs (n ++ (61 :: (rv ++ (rps false r ++ t)))) (fun c hc => (tok_not c (tok_head hn _ c hc)).1)
      rcases hws with rfl | rfl
      · have : isWs 32 = true := rfl
        rw [List.cons_append, List.dropWhile_cons, if_pos this, List.nil_append, h0]
      · rw [List.nil_append, h0]
    have htk := take_tok hn.2 (61 :: (rv ++ (rps false r ++ t))) hs
    have hdw : (61 :: (rv ++ (rps false r ++ t)) : List UInt8).dropWhile isWs = 61 :: (rv ++ (rps false r ++ t)) := drop_none _ _ (by intro c hc; simp at hc; subst hc; decide)
    have htl : rps false r ++ t = [] ∨ (rps false r ++ t).head? = some 44 := by
      cases r with
      | nil => simpa [rps] using after_head ha
      | cons x r' => right; simp [rps]
    obtain ⟨hv1, hv2⟩ := hv _ htl
    have hd : (rps false r ++ t).dropWhile isWs = rps false r ++ t := by
      rcases htl with h | h
      · rw [h]; rfl
      · exact drop_none _ _ (by intro c hc; rw [h] at hc; cases hc; decide)
    have e := prm_eq (ws ++ (n ++ (61 :: (rv ++ (rps false r ++ t)))))
    simp only [e1, htk.1, htk.2, hdw, List.tail_cons, hv2, hv1, hd] at e
    rw [if_neg (by simp; exact hn.1)] at e
    rw [e]
    cases r with
    | nil =>
      simp only [rps, List.nil_append]
      rcases ha with ⟨rfl, rfl⟩ | ⟨sc, u, hsc, rfl, rfl, hu, hne⟩
      · exact ⟨rfl, rfl⟩
      · simp only [List.head?_cons, if_true, List.tail_cons]
        rw [prm_scheme hsc hu hne]
        exact ⟨rfl, sep_scheme hsc⟩
    | cons x r' =>
      obtain ⟨n2, v2, rv2⟩ := x
      have hih := prm_false ((n2, v2, rv2) :: r') t rest (fun y hy => hg y (List.mem_cons_of_mem _ hy)) (by simp) ha [32] (.inl rfl)
      have e2 : rps false ((n2, v2, rv2) :: r') ++ t = 44 :: ptext [32] ((n2, v2, rv2) :: r') t := by simp [rps, ptext]
      rw [e2]
      simp only [List.head?_cons, if_true, List.tail_cons]
      exact ⟨by rw [hih.1]; rfl, hih.2⟩

theorem prm_all (ps : List (List UInt8 × List UInt8 × List UInt8)) (t rest : List UInt8) (hg : Good ps) (ha : After t rest) : (prm (rps true ps ++ t)).1 = vals ps ∧ (prm (rps true ps ++ t)).2.dropWhile isSep = rest := by
  have hrest : rest.dropWhile isSep = rest := by
    rcases ha with ⟨_, rfl⟩ | ⟨sc, u, hsc, _, rfl, _⟩
    · rfl
    · exact drop_none _ _ (fun c hc => (tok_not c (tok_head hsc u c hc)).2.1)
  cases ps with
  | nil =>
    simp only [rps, List.nil_append]
    rcases ha with ⟨rfl, rfl⟩ | ⟨sc, u, hsc, rfl, rfl, hu, hne⟩
    · rw [prm_empty]; exact ⟨rfl, rfl⟩
    · have e : prm (44 :: 32 :: (sc ++ u)) = ([], 44 :: 32 :: (sc ++ u)) := by
        rw [prm_eq]
        have : (44 :: 32 :: (sc ++ u) : List UInt8).dropWhile isWs = 44 :: 32 :: (sc ++ u) := drop_none _ _ (by intro c hc; simp at hc; subst hc; decide)
        rw [this]
        have h2 : (44 :: 32 :: (sc ++ u) : List UInt8).takeWhile isTok = [] := by
          have : isTok 44 = false := by decide
          simp [this]
        rw [if_pos (.inl h2)]
      rw [e]
      refine ⟨rfl, ?_⟩
      have i1 : isSep 44 = true := rfl
      have i2 : isSep 32 = true := rfl
      simp only [List.dropWhile_cons, i1, i2, if_true]
      exact hrest
  | cons x r =>
    obtain ⟨n, v, rv⟩ := x
    have h := prm_false ((n, v, rv) :: r) t rest hg (by simp) ha [32] (.inl rfl)
    have e2 : rps true ((n, v, rv) :: r) ++ t = ptext [32] ((n, v, rv) :: r) t := by simp [rps, ptext]
    rw [e2]
    exact h

/-- A header: challenges, a comma and a blank between them. -/
def hdr : List (List UInt8 × List (List UInt8 × List UInt8 × List UInt8)) → List UInt8
  | [] => []
  | [c] => c.1 ++ rps true c.2
  | c :: d :: r => c.1 ++ (rps true c.2 ++ (44 :: 32 :: hdr (d :: r)))
def GoodC (cs : List (List UInt8 × List (List UInt8 × List UInt8 × List UInt8))) : Prop := ∀ c ∈ cs, Token c.1 ∧ Good c.2

theorem rps_head (ps : List (List UInt8 × List UInt8 × List UInt8)) (t : List UInt8) (ht : ∀ c, t.head? = some c → isTok c = false) : ∀ c, (rps true ps ++ t).head? = some c → isTok c = false := by
  cases ps with
  | nil => exact ht
  | cons x r => obtain ⟨n, v, rv⟩ := x; intro c hc; simp [rps] at hc; subst hc; decide
theorem rps_eq (ps : List (List UInt8 × List UInt8 × List UInt8)) (hg : Good ps) (t : List UInt8) (ht : (t.dropWhile isWs).head? ≠ some 61) : ((rps true ps ++ t).dropWhile isWs).head? ≠ some 61 := by
  cases ps with
  | nil => exact ht
  | cons x r =>
    obtain ⟨n, v, rv⟩ := x
    obtain ⟨hn, _⟩ := hg (n, v, rv) (List.mem_cons_self ..)
    have e : rps true ((n, v, rv) :: r) ++ t = 32 :: (n ++ (61 :: (rv ++ (rps false r ++ t)))) := by simp [rps]
    have i : isWs 32 = true := rfl
    rw [e, List.dropWhile_cons, if_pos i, drop_none isWs _ (fun c hc => (tok_not c (tok_head hn _ c hc)).1)]
    intro h
    exact (tok_not 61 (tok_head hn _ 61 h)).2.2.1 rfl

/-- A rendered header parses back. -/
theorem prs_hdr : ∀ (cs : List (List UInt8 × List (List UInt8 × List UInt8 × List UInt8))), GoodC cs → ∀ l, l.dropWhile isSep = hdr cs → prs l = cs.map fun c => (c.1, vals c.2)
  | [], _, l, hl => by
    rw [prs_eq, hl]; rfl
  | [c], hg, l, hl => by
    obtain ⟨h1, h2⟩ := hg c (List.mem_cons_self ..)
    have hh := rps_head c.2 [] (by intro c hc; cases hc)
    rw [List.append_nil] at hh
    have htk := take_tok h1.2 (rps true c.2) hh
    have hp := prm_all c.2 [] [] h2 (.inl ⟨rfl, rfl⟩)
    rw [List.append_nil] at hp
    have hl2 : l.dropWhile isSep = c.1 ++ rps true c.2 := hl
    rw [prs_eq, if_neg (by rw [hl2, htk.1]; exact h1.1), hl2, htk.1, htk.2, hp.1, prs_eq, hp.2]
    rfl
  | c :: d :: r, hg, l, hl => by
    obtain ⟨h1, h2⟩ := hg c (List.mem_cons_self ..)
    obtain ⟨g1, g2⟩ := hg d (List.mem_cons_of_mem _ (List.mem_cons_self ..))
    obtain ⟨u, hu, hu1, hu2⟩ : ∃ u, hdr (d :: r) = d.1 ++ u ∧ (∀ c, u.head? = some c → isTok c = false) ∧ (u.dropWhile isWs).head? ≠ some 61 := by
      cases r with
      | nil =>
        refine ⟨rps true d.2, rfl, ?_, ?_⟩
        · have := rps_head d.2 [] (by intro c hc; cases hc)
          rwa [List.append_nil] at this
        · have := rps_eq d.2 g2 [] (by decide)
          rwa [List.append_nil] at this
      | cons e r' =>
        refine ⟨rps true d.2 ++ (44 :: 32 :: hdr (e :: r')), rfl, ?_, ?_⟩
        · exact rps_head d.2 _ (by intro c hc; simp at hc; subst hc; decide)
        · refine rps_eq d.2 g2 _ ?_
          rw [drop_none isWs _ (by intro c hc; simp at hc; subst hc; decide)]
          simp
    have ha : After (44 :: 32 :: hdr (d :: r)) (hdr (d :: r)) := .inr ⟨d.1, u, g1, by rw [hu], hu, hu1, hu2⟩
    have hh := rps_head c.2 (44 :: 32 :: hdr (d :: r)) (by intro c hc; simp at hc; subst hc; decide)
    have htk := take_tok h1.2 _ hh
    have hp := prm_all c.2 _ _ h2 ha
    have hl2 : l.dropWhile isSep = c.1 ++ (rps true c.2 ++ (44 :: 32 :: hdr (d :: r))) := hl
    rw [prs_eq, if_neg (by rw [hl2, htk.1]; exact h1.1), hl2, htk.1, htk.2, hp.1, prs_hdr (d :: r) (fun x hx => hg x (List.mem_cons_of_mem _ hx)) _ hp.2]
    rfl
end Go.Proofs.Qxb6000905aDoor
