/-
  WALKS of seat b6602621aD: parseSignals.
-/
import Derived.Test.Qxb6602621aDoorW7
import Derived.Laws.IdiomStrings
namespace Go.Proofs.Qxb6602621aDoor
open Go.RowKit Go.Lib

/-! ### plain -/
theorem pow16_lt {j : Nat} (h : j ≤ 15) : 16 ^ j ≤ 1152921504606846976 := by
  have : (16 : Nat) ^ j ≤ 16 ^ 15 := Nat.pow_le_pow_right (by decide) h
  exact Nat.le_trans this (by decide)
theorem hexP_short : ∀ (l : List UInt8) (acc j : Nat), acc < 16 ^ j → j + l.length ≤ 16 → hexP acc l ≠ some none
  | [], acc, j, _, _ => by intro h; cases h
  | c :: r, acc, j, h, hl => by
    rw [List.length_cons] at hl
    unfold hexP
    split
    · intro h; cases h
    · rename_i d hd
      have hd16 := hexD_lt hd
      have := pow16_lt (j := j) (by omega)
      rw [if_neg (by omega)]
      exact hexP_short r (acc * 16 + d) (j + 1) (by rw [Nat.pow_succ]; omega) (by omega)
theorem hexU_short (l : List UInt8) (h : l.length ≤ 16) : hexU l ≠ some none := by
  unfold hexU
  split
  · intro h; cases h
  · exact hexP_short l 0 0 (by decide) (by omega)

/-- What parseSignals hands back, of the trimmed text. -/
def PS : Option Nat → Ending → Prop
  | some u, e => e = .returned (.tuple #[.int .u64 u, .nilIface])
  | none, e => ∃ N, e = .returned (.tuple #[.int .u64 0, .iface 50 (.pointer (some ⟨N, 0, none⟩))])
theorem PS_of_PU (l : List UInt8) (h : l.length ≤ 16) (e : Ending) (hp : PU (hexU l) e) : PS (hexU l).join e := by
  cases hx : hexU l with
  | none => rw [hx] at hp; exact hp
  | some o =>
    cases o with
    | none => exact absurd hx (hexU_short l h)
    | some u => rw [hx] at hp; exact hp

/-! ### string(b) -/
theorem conv_l (w : World) (b off cap : Nat) (l : List UInt8) (hB : HasB w b off l) :
    (convert 22 9 (.slice (some ⟨b, off, none⟩) l.length cap)).run Tryd.prog w = .ok (.string ⟨l.toArray⟩) w := by
  refine run_convert_bytes_back (P := Tryd.prog) w 22 9 5 ⟨b, off, none⟩ cap l Tryd.underlying22 Tryd.underlying5 Tryd.underlying9 (fun j hj => ?_)
  have h := hB j hj
  have e : (⟨b, off, none⟩ : Addr).add j = ⟨b, off + j, none⟩ := by
    unfold Addr.add
    by_cases h0 : j = 0 <;> simp [h0]
  rw [e, h, List.getD, List.getElem?_eq_getElem hj]; rfl
theorem conv_nil (w : World) : (convert 22 9 (.slice none 0 0)).run Tryd.prog w = .ok (.string ⟨#[]⟩) w := by
  rw [run_convert_bytes_string w 22 9 5 none 0 0 Tryd.underlying22 Tryd.underlying5 Tryd.underlying9]
  simp [Conv.bytesToString]
  rfl

/-! ### the walk behind bytes.TrimSpace -/
/-- parseSignals, TrimSpace given by its contract. -/
def Sig (v0 : Value) (d : List UInt8) (w : World) : Prop :=
  Calls Tryd.prog 14 #[v0] w fun e w' => PS (psig d) e ∧ Below w.heap.size w w'

set_option maxHeartbeats 400000 in
set_option maxRecDepth 100000 in
theorem sig_any (v0 : Value) (d : List UInt8) (w : World) (hd : d.length ≤ 1099511627776) (hS : Sents w)
    (cT : Calls Tryd.prog 17 #[v0] w fun e w' => (∃ v, e = .returned v ∧ SliceB w' v d) ∧ Below w.heap.size w w') : Sig v0 d w := by
  unfold Sig
  have HS := hide hS
  clear hS
  go_enter Tryd.func14, Tryd.ntmps14
  go_wp2_with fail
  refine cT.mono ?_
  rintro e W1 ⟨⟨v, rfl, hv⟩, hb⟩
  have HS1 := hide ((unhide HS).below hb)
  clear cT
  rcases hv with ⟨rfl, hv⟩ | ⟨b1, o1, c1, rfl, hc1, hB1⟩
  · subst hv
    have hcv := conv_nil W1
    have cP := parseU_any ⟨#[]⟩ (by decide) W1 (unhide HS1)
    go_wp2_with fail
    refine cP.mono ?_
    rintro e W2 ⟨⟨N, rfl⟩, h3⟩
    go_wp2
    go_ret2
    exact ⟨⟨N, rfl⟩, hb.trans (h3.mono hb.size)⟩
  · have HB := hide hB1
    clear hB1
    by_cases h16 : 16 < d.length
    · have hi16 : (16 : Int) < (d.length : Int) := by omega
      have hl1 : (d.take (d.length - 16)).length = d.length - 16 := by rw [List.length_take]; omega
      have hl2 : (d.drop (d.length - 16)).length = 16 := by rw [List.length_drop]; omega
      have hBt : HasB W1 b1 o1 (d.take (d.length - 16)) := by
        have := (unhide HB).sub 0 (d.length - 16) (by omega)
        simpa using this
      have hcv := fun c => conv_l W1 b1 o1 c _ hBt
      rw [hl1] at hcv
      have cP := parseU_any ⟨(d.take (d.length - 16)).toArray⟩ (by rw [ba_size, hl1]; omega) W1 (unhide HS1)
      rw [ba_list] at cP
      go_wp2_with fail
      refine cP.mono ?_
      rintro e W2 ⟨hpu, h3⟩
      have HP := hide hpu
      clear hpu hcv cP
      cases hx : hexU (d.take (d.length - 16)) with
      | none =>
        have hps : psig d = none := by unfold psig; rw [if_pos h16, hx]
        have HX := hide hps
        rw [hx] at HP
        obtain ⟨N, rfl⟩ := unhide HP
        clear HP hx hps
        go_wp2
        go_ret2
        exact ⟨by rw [unhide HX]; exact ⟨N, rfl⟩, hb.trans (h3.mono hb.size)⟩
      | some o =>
        cases o with
        | none =>
          have hps : psig d = none := by unfold psig; rw [if_pos h16, hx]
          have HX := hide hps
          rw [hx] at HP
          obtain ⟨N, rfl⟩ := unhide HP
          clear HP hx hps
          go_wp2
          go_ret2
          exact ⟨by rw [unhide HX]; exact ⟨N, rfl⟩, hb.trans (h3.mono hb.size)⟩
        | some u =>
          have hps : psig d = (hexU (d.drop (d.length - 16))).join := by unfold psig; rw [if_pos h16, hx]
          rw [hx] at HP
          obtain rfl : e = _ := unhide HP
          have hBd : HasB W2 b1 (o1 + (d.length - 16)) (d.drop (d.length - 16)) := ((unhide HB).drop (d.length - 16) (by omega)).below h3
          have hcv := fun c => conv_l W2 b1 (o1 + (d.length - 16)) c _ hBd
          rw [List.length_drop] at hcv
          have HS2 := hide ((unhide HS1).below h3)
          have cP := parseU_any ⟨(d.drop (d.length - 16)).toArray⟩ (by rw [ba_size, hl2]; decide) W2 (unhide HS2)
          rw [ba_list] at cP
          have HX := hide hps
          clear HP hx hps hBd
          go_wp2_with fail
          refine cP.mono ?_
          rintro e W3 ⟨hpu, h4⟩
          have hq := PS_of_PU _ (by omega) e hpu
          rw [← unhide HX] at hq
          have HQ := hide hq
          clear hpu hq HX
          cases hy : psig d with
          | none =>
            rw [hy] at HQ
            obtain ⟨N, rfl⟩ := unhide HQ
            have HY := hide hy
            clear HQ hy
            go_wp2
            go_ret2
            exact ⟨by rw [unhide HY]; exact ⟨N, rfl⟩, (hb.trans (h3.mono hb.size)).trans (h4.mono (Nat.le_trans hb.size h3.size))⟩
          | some q =>
            rw [hy] at HQ
            obtain rfl : e = _ := unhide HQ
            have HY := hide hy
            clear HQ hy
            go_wp2
            go_ret2
            exact ⟨by rw [unhide HY]; rfl, (hb.trans (h3.mono hb.size)).trans (h4.mono (Nat.le_trans hb.size h3.size))⟩
    · have hcv := conv_l W1 b1 o1 c1 d (unhide HB)
      have cP := parseU_any ⟨d.toArray⟩ (by rw [ba_size]; omega) W1 (unhide HS1)
      rw [ba_list] at cP
      have hi16 : ¬ (16 : Int) < (d.length : Int) := by omega
      go_wp2_with fail
      refine cP.mono ?_
      rintro e W2 ⟨hpu, h3⟩
      have hps := PS_of_PU d (by omega) e hpu
      have hpd : psig d = (hexU d).join := by unfold psig; rw [if_neg h16]
      rw [← hpd] at hps
      have HP := hide hps
      clear hpu hps hpd
      cases hx : psig d with
      | none =>
        rw [hx] at HP
        obtain ⟨N, rfl⟩ := unhide HP
        have HX := hide hx
        clear HP hx
        go_wp2
        go_ret2
        exact ⟨by rw [unhide HX]; exact ⟨N, rfl⟩, hb.trans (h3.mono hb.size)⟩
      | some u =>
        rw [hx] at HP
        obtain rfl : e = _ := unhide HP
        have HX := hide hx
        clear HP hx
        go_wp2
        go_ret2
        exact ⟨by rw [unhide HX]; rfl, hb.trans (h3.mono hb.size)⟩

/-- parseSignals at a slice that holds l. -/
theorem parseSig (b off cap : Nat) (l : List UInt8) (w : World) (hcap : l.length ≤ cap) (hs : l.length ≤ 1099511627776) (hB : HasB w b off l) (hT : Tabs w) (hS : Sents w) :
    Sig (.slice (some ⟨b, off, none⟩) l.length cap) (trimSpaceD l) w := by
  refine sig_any _ _ w ?_ hS (trimSpace_any b off cap l w hcap hs hB hT)
  have h1 := trimLeftD_le l.length l
  have h2 : ∀ (f : Nat) (x : List UInt8), (trimRightD f x).length ≤ x.length := by
    intro f
    induction f with
    | zero => intro x; exact Nat.le_refl _
    | succ f ih =>
      intro x
      unfold trimRightD
      split
      · simp
      · split
        · exact Nat.le_trans (ih _) (by rw [List.length_take]; omega)
        · exact Nat.le_refl _
  have h3 := h2 l.length (trimLeftD l.length l)
  unfold trimSpaceD
  omega

set_option maxHeartbeats 400000 in
theorem zzParse (v0 : Value) (d : List UInt8) (w : World) (h : Sig v0 d w) :
    Calls Tryd.prog 7 #[v0] w fun e w' => PS (psig d) e ∧ Below w.heap.size w w' := by
  unfold Sig at h
  go_enter Tryd.func7, Tryd.ntmps7
  go_wp2_with fail
  refine h.mono ?_
  rintro e W1 ⟨hps, hb⟩
  have HQ := hide hps
  clear hps h
  cases hy : psig d with
  | none =>
    rw [hy] at HQ
    obtain ⟨N, rfl⟩ := unhide HQ
    have HY := hide hy
    clear HQ hy
    go_wp2
    go_ret2
    exact ⟨by rw [unhide HY]; exact ⟨N, rfl⟩, hb⟩
  | some q =>
    rw [hy] at HQ
    obtain rfl : e = _ := unhide HQ
    have HY := hide hy
    clear HQ hy
    go_wp2
    go_ret2
    exact ⟨by rw [unhide HY]; rfl, hb⟩
end Go.Proofs.Qxb6602621aDoor
