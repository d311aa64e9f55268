/-
  Plain steps along a rendered header, seat b6000905aD.
-/
import Derived.Test.Qxb6000905aDoorW4
set_option linter.unusedVariables false
namespace Go.Proofs.Qxb6000905aDoor
open Go.RowKit Go.Lib

abbrev RP := List UInt8 × List UInt8 × List UInt8
abbrev RC := List UInt8 × List RP
def GoodQ (ps : List RP) : Prop := ∀ x ∈ ps, Token x.1 ∧ x.2.2 = quoted x.2.1
def GoodCQ (cs : List RC) : Prop := ∀ c ∈ cs, Token c.1 ∧ GoodQ c.2
/-- What follows a challenge. -/
def tailT : List RC → List UInt8
  | [] => []
  | d :: r => 44 :: 32 :: hdr (d :: r)
theorem hdr_cons (c : RC) (rest : List RC) : hdr (c :: rest) = c.1 ++ (rps true c.2 ++ tailT rest) := by
  cases rest with
  | nil => simp [hdr, tailT]
  | cons d r => rfl
theorem tailT_stop (rest : List RC) : Stop (tailT rest) := by
  intro c hc
  cases rest with
  | nil => cases hc
  | cons d r => simp [tailT] at hc; subst hc; decide
theorem rps_stop (ps : List RP) (rest : List RC) : Stop (rps true ps ++ tailT rest) := by
  cases ps with
  | nil => exact tailT_stop rest
  | cons x r => obtain ⟨n, v, rv⟩ := x; intro c hc; simp [rps] at hc; subst hc; decide
theorem hdr_sep (cs : List RC) (h : GoodCQ cs) : (hdr cs).dropWhile isSep = hdr cs := by
  cases cs with
  | nil => rfl
  | cons c rest =>
    rw [hdr_cons]
    exact drop_none isSep _ (fun x hx => (tok_not x (tok_head (h c (List.mem_cons_self ..)).1 _ x hx)).2.1)
/-- Where the loop over parameters stands. -/
def At3 (ps : List RP) (rest : List RC) (j : Nat) (l : List UInt8) : Prop := (j ≤ ps.length ∧ l = rps true (ps.drop j) ++ tailT rest) ∨ (j = ps.length ∧ ∃ T, tailT rest = 44 :: T ∧ l = T)
theorem at3_start (ps : List RP) (rest : List RC) : At3 ps rest 0 (rps true ps ++ tailT rest) := .inl ⟨Nat.zero_le _, rfl⟩
/-- One parameter: what is cut off, what stays. -/
theorem at3_more {ps : List RP} {rest : List RC} {j : Nat} {l : List UInt8} (hg : GoodQ ps) (h : l = rps true (ps.drop j) ++ tailT rest) (hj : j < ps.length) :
    l.dropWhile isWs = ps[j].1 ++ (61 :: (quoted ps[j].2.1 ++ (rps false (ps.drop (j + 1)) ++ tailT rest))) ∧ Token ps[j].1 := by
  obtain ⟨hn, hq⟩ := hg ps[j] (List.getElem_mem hj)
  refine ⟨?_, hn⟩
  have e : ps.drop j = ps[j] :: ps.drop (j + 1) := List.drop_eq_getElem_cons hj
  rw [h, e]
  generalize ps[j] = x at *
  obtain ⟨n, v, rv⟩ := x
  simp only at hq hn
  subst hq
  have i : isWs 32 = true := rfl
  have e2 : rps true ((n, v, quoted v) :: ps.drop (j + 1)) ++ tailT rest = 32 :: (n ++ (61 :: (quoted v ++ (rps false (ps.drop (j + 1)) ++ tailT rest)))) := by simp [rps]
  rw [e2, List.dropWhile_cons, if_pos i, drop_none isWs _ (fun c hc => (tok_not c (tok_head hn _ c hc)).1)]
/-- Behind one parameter: a comma and more, or the end of this challenge. -/
theorem at3_after {ps : List RP} {rest : List RC} {j : Nat} (hj : j < ps.length) :
    (rps false (ps.drop (j + 1)) ++ tailT rest).dropWhile isWs = rps false (ps.drop (j + 1)) ++ tailT rest ∧
    ((rps false (ps.drop (j + 1)) ++ tailT rest).head? = some 44 → At3 ps rest (j + 1) (rps false (ps.drop (j + 1)) ++ tailT rest).tail) ∧
    ((rps false (ps.drop (j + 1)) ++ tailT rest).head? ≠ some 44 → j + 1 = ps.length ∧ rest = [] ∧ rps false (ps.drop (j + 1)) ++ tailT rest = []) := by
  rcases Nat.lt_or_ge (j + 1) ps.length with hlt | hge
  · have e : ps.drop (j + 1) = ps[j + 1] :: ps.drop (j + 1 + 1) := List.drop_eq_getElem_cons hlt
    have e2 : rps false (ps.drop (j + 1)) ++ tailT rest = 44 :: (rps true (ps.drop (j + 1)) ++ tailT rest) := by
      rw [e]
      generalize ps[j + 1] = x
      obtain ⟨n, v, rv⟩ := x
      simp [rps]
    rw [e2]
    exact ⟨drop_none _ _ (by intro c hc; simp at hc; subst hc; decide), fun _ => .inl ⟨Nat.le_of_lt hlt, rfl⟩, fun h => absurd rfl h⟩
  · have e : ps.drop (j + 1) = [] := List.drop_eq_nil_of_le hge
    have e0 : rps false ([] : List RP) = [] := rfl
    rw [e, e0, List.nil_append]
    cases rest with
    | nil => exact ⟨rfl, (fun h => by cases h), fun _ => ⟨by omega, rfl, rfl⟩⟩
    | cons d r => exact ⟨drop_none _ _ (by intro c hc; simp [tailT] at hc; subst hc; decide), fun _ => .inr ⟨by omega, _, rfl, rfl⟩, fun h => absurd rfl h⟩
/-- No parameter follows: what cutToken gives, and that it is none. -/
theorem at3_none {ps : List RP} {rest : List RC} {j : Nat} {l : List UInt8} (hr : GoodCQ rest) (h : At3 ps rest j l) (hj : ¬ (j < ps.length)) :
    j = ps.length ∧ l.dropWhile isSep = hdr rest ∧ ∃ tk u, l.dropWhile isWs = tk ++ u ∧ (∀ c ∈ tk, isTok c = true) ∧ Stop u ∧ (tk = [] ∨ (u.dropWhile isWs).head? ≠ some 61) := by
  have i1 : isSep 44 = true := rfl
  have i2 : isSep 32 = true := rfl
  have w2 : isWs 32 = true := rfl
  rcases h with ⟨h1, rfl⟩ | ⟨h1, T, hT, hlT⟩
  · have hjj : j = ps.length := by omega
    have e : ps.drop j = [] := List.drop_eq_nil_of_le (by omega)
    have e0 : rps true ([] : List RP) = [] := rfl
    rw [e, e0, List.nil_append]
    refine ⟨hjj, ?_, ?_⟩
    · cases rest with
      | nil => rfl
      | cons d r =>
        show (44 :: 32 :: hdr (d :: r)).dropWhile isSep = _
        rw [List.dropWhile_cons, if_pos i1, List.dropWhile_cons, if_pos i2, hdr_sep _ hr]
    · refine ⟨[], tailT rest, ?_, (by intro c hc; cases hc), tailT_stop rest, .inl rfl⟩
      cases rest with
      | nil => rfl
      | cons d r => exact drop_none _ _ (by intro c hc; simp [tailT] at hc; subst hc; decide)
  · cases rest with
    | nil => cases hT
    | cons d r =>
      have hT' : T = 32 :: hdr (d :: r) := by
        have : 44 :: 32 :: hdr (d :: r) = 44 :: T := hT
        simpa using this.symm
      subst hT'
      subst hlT
      have hd := (hr d (List.mem_cons_self ..))
      refine ⟨h1, ?_, d.1, rps true d.2 ++ tailT r, ?_, hd.1.2, rps_stop d.2 r, .inr ?_⟩
      · rw [List.dropWhile_cons, if_pos i2, hdr_sep _ hr]
      · rw [List.dropWhile_cons, if_pos w2, hdr_cons]
        exact drop_none isWs _ (fun c hc => (tok_not c (tok_head hd.1 _ c hc)).1)
      · have hgood : Good d.2 := by
          intro x hx
          obtain ⟨a, b⟩ := hd.2 x hx
          exact ⟨a, by rw [b]; exact VT_quoted _⟩
        refine rps_eq d.2 hgood (tailT r) ?_
        cases r with
        | nil => decide
        | cons e r' =>
          rw [drop_none isWs _ (by intro c hc; simp [tailT] at hc; subst hc; decide)]
          simp [tailT]
theorem qv_quoted (v D : List UInt8) : qv [] (quoted v ++ D).tail = (v, D) ∧ (quoted v ++ D).head? = some 34 ∧ (quoted v ++ D).dropWhile isWs = quoted v ++ D := by
  refine ⟨?_, rfl, ?_⟩
  · show qv [] ((esc v ++ [34]) ++ D) = _
    rw [List.append_assoc]
    exact qv_esc v [] D
  · simp [quoted, isWs]
end Go.Proofs.Qxb6000905aDoor
