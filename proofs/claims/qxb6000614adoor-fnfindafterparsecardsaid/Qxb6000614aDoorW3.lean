/-
  WALKS of seat b6000614aD: lexer.value at a quoted string.
-/
import Derived.Test.Qxb6000614aDoorW2
set_option linter.unusedVariables false
namespace Go.Proofs.Qxb6000614aDoor
open Go.RowKit Go.Lib

theorem grown_below {w wr w' : World} {N b : Nat} (h : w.grownBy wr (some b)) (hN : w.heap.size ≤ N) (hb : Below N wr w') : w.grownBy w' (some b) :=
  ⟨hb.os.trans h.os, hb.tape.trans h.tape, hb.output.trans h.output, Nat.le_trans h.size hb.size, fun k hk hne => (hb.block k (by omega)).trans (h.block k hk hne)⟩
theorem own_far {w : World} {B : Nat} {e : TypeId} {v : Value} {n : Nat} {xs : List Value} (hown : w.ownsRowF B e 1 v n xs) {b : Nat} (hb : b < B) : v.ownBlock ≠ some b := by
  rcases hown.2 with ⟨rfl, _⟩ | ⟨g, cap, cur, fz, rfl, hg, _⟩
  · simp [Value.ownBlock]
  · intro h
    simp only [Value.ownBlock, Option.some.injEq] at h
    omega
theorem builderAt_kept {T e : TypeId} {B bb b : Nat} {p : Value} {bs : List Value} {w w' : World} (h : BuilderAtF T e B bb p bs w) (hg : w.grownBy w' (some b)) (hb : b < B) : BuilderAtF T e B bb p bs w' := by
  have hlt := h.lt
  obtain ⟨hB, v, hbk, hown, hne⟩ := h
  exact ⟨hB, v, (hg.block bb hlt (by intro e; cases e; omega)).trans hbk, hown.kept hg (.inr (own_far hown hb)), hne⟩
theorem builder_kept {T e : TypeId} {B bb b : Nat} {bs : List Value} {w w' : World} (h : IsBuilderF T e B bb bs w) (hg : w.grownBy w' (some b)) (hb : b < B) : IsBuilderF T e B bb bs w' :=
  h.elim (fun x => .inl (builderAt_kept x hg hb)) (fun x => .inr (builderAt_kept x hg hb))
theorem builder_lt {T e : TypeId} {B bb : Nat} {bs : List Value} {w : World} (h : IsBuilderF T e B bb bs w) : bb < w.heap.size := h.elim (fun x => x.lt) (fun x => x.lt)
theorem byteCells_snoc (l : List UInt8) (c : UInt8) : byteCells l ++ [.int .u8 c.toNat] = byteCells (l ++ [c]) := by simp [byteCells]
theorem byteCells_len (l : List UInt8) : (byteCells l).length = l.length := by simp [byteCells]

/-- WriteByte on the builder that lies at N, above the lexer. -/
theorem write_byte (N b : Nat) (acc : List UInt8) (c : UInt8) (w0 w : World) (hN : w0.heap.size ≤ N) (h : IsBuilderF 60 5 N N (byteCells acc) w) (hacc : acc.length ≤ 1099511627776) (hg : w0.grownBy w (some b)) :
    Calls Tryd.prog 40 #[.pointer (some ⟨N, 0, none⟩), .int .u8 c.toNat] w fun e w' => e = .returned .nilIface ∧ IsBuilderF 60 5 N N (byteCells (acc ++ [c])) w' ∧ Below N w w' ∧ w0.grownBy w' (some b) := by
  refine (Tryd.Builder_WriteByte_k N N (byteCells acc) c.toNat w h (by rw [byteCells_len]; omega) (Nat.le_of_lt (builder_lt h))).mono ?_
  rintro e w' ⟨rfl, h1, h2, _⟩
  rw [byteCells_snoc] at h1
  exact ⟨rfl, .inr h1, h2, grown_below hg hN h2⟩

set_option maxHeartbeats 1000000 in
set_option maxRecDepth 100000 in
theorem value_quoted (b i : Nat) (s : ByteArray) (w : World) (hL : Lx w b s i) (hi : i ≤ s.size) (hs : s.size ≤ 1099511627776) (hq : (sfx s i).head? = some 34) :
    Calls Tryd.prog 35 #[.pointer (some ⟨b, 0, none⟩)] w fun e w' => ValEnd (qv [] (sfx s i).tail) s b e w' ∧ w.grownBy w' (some b) := by
  have HN := hide (next_yes b i s 34 w hL hs hq)
  clear hL hq
  go_enter Tryd.func35, Tryd.ntmps35
  go_wp2_with fail
  refine (unhide HN).mono ?_
  rintro e w1 ⟨rfl, ⟨hL1, hi1, htl⟩, hg1⟩
  have HT := hide htl
  clear htl
  have HL1 := hide hL1
  have HG1 := hide hg1
  have hbN : b < w1.heap.size := hL1.lt
  have hNw : w.heap.size ≤ w1.heap.size := hg1.size
  clear hL1 hg1
  go_wp2
  go_loopw [] (fun wr => ∃ (j : Nat) (acc : List UInt8), j ≤ s.size ∧ acc.length ≤ j ∧ Hid (Lx wr b s j) ∧ Hid (IsBuilderF 60 5 w1.heap.size w1.heap.size (byteCells acc) wr) ∧ Hid (w.grownBy wr (some b)) ∧ Hid (qv [] (sfx s i).tail = qv acc (sfx s j))) (fun wr => s.size - lxI wr b)
  case atStart =>
    refine ⟨i + 1, [], hi1, Nat.zero_le _, ?_, hide (IsBuilderF.of (fresh_isBuilder 60 5 w1)), hide ((unhide HG1).trans (World.grownBy_alloc w1 _ _)), hide (by rw [unhide HT])⟩
    exact hide ((Below.heap_alloc w1 _ b hbN).trans (unhide HL1))
  case round =>
    obtain ⟨j, acc, hj, hacc, HLj, HB, HG, HS⟩ := hrel
    have hc0 := (unhide HLj).c0
    have hc1 := (unhide HLj).c1
    have hf1 := (unhide HLj).f1
    have HB2 : Hid (∀ n, IsBuilderF 60 5 w1.heap.size w1.heap.size (byteCells acc) ((wr.drewN n).setCell ⟨b, 1, none⟩ (.int .i64 ((j : Int) + 1)))) := fun n => builder_kept (unhide HB) (grown_setq wr n b 1 _) hbN
    have HL2 : Hid (∀ n, Lx ((wr.drewN n).setCell ⟨b, 1, none⟩ (.int .i64 ((j : Int) + 1))) b s (j + 1)) := fun n => (unhide HLj).setq n
    have HG2 : Hid (∀ n, w.grownBy ((wr.drewN n).setCell ⟨b, 1, none⟩ (.int .i64 ((j : Int) + 1))) (some b)) := fun n => (unhide HG).trans (grown_setq wr n b 1 _)
    have HB3 : Hid (∀ n k, IsBuilderF 60 5 w1.heap.size w1.heap.size (byteCells acc) (((wr.drewN n).setCell ⟨b, 1, none⟩ (.int .i64 ((j : Int) + 1))).drewN k)) := fun n k => builder_kept (unhide HB2 n) (grown_drewN _ k (some b)) hbN
    have HL3 : Hid (∀ n k, Lx (((wr.drewN n).setCell ⟨b, 1, none⟩ (.int .i64 ((j : Int) + 1))).drewN k) b s (j + 1)) := fun n k => unhide HL2 n
    have HG3 : Hid (∀ n k, w.grownBy (((wr.drewN n).setCell ⟨b, 1, none⟩ (.int .i64 ((j : Int) + 1))).drewN k) (some b)) := fun n k => (unhide HG2 n).trans (grown_drewN _ k (some b))
    have HL5 : Hid (∀ n k, Lx ((((wr.drewN n).setCell ⟨b, 1, none⟩ (.int .i64 ((j : Int) + 1))).drewN k).drew) b s (j + 1)) := fun n k => unhide HL2 n
    have HC : Hid (∀ n k, ((((wr.drewN n).setCell ⟨b, 1, none⟩ (.int .i64 ((j : Int) + 1))).drewN k).drew).cell? ⟨b, 0, none⟩ = some (.string s) ∧ ((((wr.drewN n).setCell ⟨b, 1, none⟩ (.int .i64 ((j : Int) + 1))).drewN k).drew).cell? ⟨b, 1, none⟩ = some (.int .i64 ((j : Int) + 1))) := fun n k => ⟨(unhide HL5 n k).c0, (unhide HL5 n k).c1⟩
    have HB5 : Hid (∀ n k, IsBuilderF 60 5 w1.heap.size w1.heap.size (byteCells acc) ((((wr.drewN n).setCell ⟨b, 1, none⟩ (.int .i64 ((j : Int) + 1))).drewN k).drew)) := fun n k => builder_kept (unhide HB3 n k) (grown_drewN _ 1 (some b)) hbN
    have HG5 : Hid (∀ n k, w.grownBy ((((wr.drewN n).setCell ⟨b, 1, none⟩ (.int .i64 ((j : Int) + 1))).drewN k).drew) (some b)) := fun n k => (unhide HG3 n k).trans (grown_drewN _ 1 (some b))
    by_cases hlt : j < s.size
    · by_cases h34 : s[j] = 34
      · have hq34 : ((s[j].toNat : Int) == 34) = true := by rw [h34]; rfl
        have HV := hide (show qv [] (sfx s i).tail = some (acc, sfx s (j + 1)) by rw [unhide HS, sfx_cons s j hlt, h34, qv_end])
        clear h34
        go_wp2
        go_quiet (fail)
        go_wp2
        go_quiet (fail)
        go_wp2_with fail
        refine (Tryd.Builder_String_any_k w1.heap.size w1.heap.size acc _ (unhide HB2 _) (Nat.le_of_lt (builder_lt (unhide HB2 _)))).mono ?_
        rintro e w2 ⟨rfl, _, hb2, _⟩
        have HL3 := hide ((unhide HL2 _).below hb2 hbN)
        have HG3 := hide (grown_below (unhide HG2 _) hNw hb2)
        clear hb2
        go_wp2
        go_ret2
        rw [unhide HV]
        exact ⟨⟨_, j + 1, rfl, rfl, unhide HL3, hlt, rfl⟩, unhide HG3⟩
      · have hq34 : ((s[j].toNat : Int) == 34) = false := beqf (fun h => h34 (UInt8.toNat_inj.1 (Int.ofNat.inj h)))
        have hj40 : acc.length ≤ 1099511627776 := by omega
        by_cases h92 : s[j] = 92
        · have hq92 : ((s[j].toNat : Int) == 92) = true := by rw [h92]; rfl
          by_cases hlt2 : j + 1 < s.size
          · have HV := hide (show qv [] (sfx s i).tail = qv (acc ++ [s[j + 1]]) (sfx s (j + 2)) by
              rw [unhide HS, sfx_cons s j hlt, h92, sfx_cons s (j + 1) hlt2, qv_bs])
            have hlt2i : (j : Int) + 1 < (s.size : Int) := by omega
            have hj41 : (j : Int) + 1 = ((j + 1 : Nat) : Int) := by omega
            have HJ := hide hj41
            clear h92 h34 hj41
            go_wp2
            go_quiet (fail)
            go_wp2
            go_quiet (fail)
            go_wp2
            go_quiet (fail)
            go_wp2_with fail
            go_region_held3 (fun w' => w'.cell? ⟨b, 0, none⟩ = some (.string s) ∧ w'.cell? ⟨b, 1, none⟩ = some (.int .i64 ((j : Int) + 1))) (first | exact unhide HC _ _ | exact unhide HC4) ((go_at_call 40; refine (write_byte w1.heap.size b acc s[j + 1] w _ hNw (unhide HB5 _ _) hj40 (unhide HG5 _ _)).mono ?_; rintro e w2 ⟨rfl, hB4, hb4, hg4⟩; have HL4 := hide ((unhide HL5 _ _).below hb4 hbN); have HB4 := hide hB4; have HG4 := hide hg4; have HC4 := hide (show w2.cell? ⟨b, 0, none⟩ = some (.string s) ∧ w2.cell? ⟨b, 1, none⟩ = some (.int .i64 ((j : Int) + 1)) from ⟨(unhide HL4).c0, (unhide HL4).c1⟩); clear hB4 hb4 hg4))
            have hd0 := (unhide HC4).1
            have hd1 := (unhide HC4).2
            have hdf := (unhide HL4).f1
            clear hc0 hc1 hf1
            go_wp2
            go_roundw
            case rel => exact ⟨j + 2, acc ++ [s[j + 1]], hlt2, by simp; omega, hide ((unhide HL4).set (j + 2)), hide (builder_kept (unhide HB4) (grown_set _ b 1 _) hbN), hide ((unhide HG4).trans (grown_set _ b 1 _)), HV⟩
            case measure =>
              rw [lxI_of (unhide HLj), lxI_of (show Lx (w2.setCell ⟨b, 1, none⟩ (.int .i64 ((j : Int) + 1 + 1))) b s (j + 2) from (unhide HL4).set (j + 2))]
              omega
          · have hd2 : decide ((j : Int) + 1 < (s.size : Int)) = false := by simp; omega
            have HV := hide (show qv [] (sfx s i).tail = qv (acc ++ [s[j]]) (sfx s (j + 1)) by
              rw [unhide HS, sfx_cons s j hlt, h92, sfx_end s (j + 1) (by omega), qv_bs0, qv_nil])
            clear h92 h34
            go_wp2
            go_quiet (fail)
            go_wp2
            go_quiet (fail)
            go_wp2
            go_quiet (fail)
            go_wp2_with fail
            refine (write_byte w1.heap.size b acc s[j] w _ hNw (unhide HB3 _ _) hj40 (unhide HG3 _ _)).mono ?_
            rintro e w2 ⟨rfl, hB4, hb4, hg4⟩
            have HL4 := hide ((unhide HL3 _ _).below hb4 hbN)
            have HB4 := hide hB4
            have HG4 := hide hg4
            clear hB4 hb4 hg4
            go_wp2
            go_roundw
            case rel => exact ⟨j + 1, acc ++ [s[j]], hlt, by simp; omega, HL4, HB4, HG4, HV⟩
            case measure =>
              rw [lxI_of (unhide HLj), lxI_of (unhide HL4)]
              omega
        · have hq92 : ((s[j].toNat : Int) == 92) = false := beqf (fun h => h92 (UInt8.toNat_inj.1 (Int.ofNat.inj h)))
          have HV := hide (show qv [] (sfx s i).tail = qv (acc ++ [s[j]]) (sfx s (j + 1)) by
            rw [unhide HS, sfx_cons s j hlt, qv_byte _ _ _ h34 h92])
          clear h92 h34
          go_wp2
          go_quiet (fail)
          go_wp2
          go_quiet (fail)
          go_wp2
          go_quiet (fail)
          go_wp2_with fail
          refine (write_byte w1.heap.size b acc s[j] w _ hNw (unhide HB3 _ _) hj40 (unhide HG3 _ _)).mono ?_
          rintro e w2 ⟨rfl, hB4, hb4, hg4⟩
          have HL4 := hide ((unhide HL3 _ _).below hb4 hbN)
          have HB4 := hide hB4
          have HG4 := hide hg4
          clear hB4 hb4 hg4
          go_wp2
          go_roundw
          case rel => exact ⟨j + 1, acc ++ [s[j]], hlt, by simp; omega, HL4, HB4, HG4, HV⟩
          case measure =>
            rw [lxI_of (unhide HLj), lxI_of (unhide HL4)]
            omega
    · have hd : decide ((j : Int) < (s.size : Int)) = false := by simp; omega
      go_wp2
      go_quiet (fail)
      go_wp2
      go_ret2
      rw [unhide HS, sfx_end s j (by omega), qv_nil]
      exact ⟨⟨rfl, j, unhide HLj, hj⟩, (unhide HG).trans (grown_drewN _ _ _)⟩

/-- lexer.value(). -/
theorem value_any (b i : Nat) (s : ByteArray) (w : World) (hL : Lx w b s i) (hi : i ≤ s.size) (hs : s.size ≤ 1099511627776) :
    Calls Tryd.prog 35 #[.pointer (some ⟨b, 0, none⟩)] w fun e w' => ValEnd (valueL (sfx s i)) s b e w' ∧ w.grownBy w' (some b) := by
  by_cases hq : (sfx s i).head? = some 34
  · have h := value_quoted b i s w hL hi hs hq
    have e : valueL (sfx s i) = qv [] (sfx s i).tail := by
      generalize sfx s i = l at *
      cases l with
      | nil => cases hq
      | cons c r =>
        simp only [List.head?_cons, Option.some.injEq] at hq
        subst hq; rfl
    rw [e]; exact h
  · have h := value_bare b i s w hL hi hs hq
    have e : valueL (sfx s i) = some ((sfx s i).takeWhile noSep, (sfx s i).dropWhile noSep) := by
      generalize sfx s i = l at *
      cases l with
      | nil => rfl
      | cons c r =>
        simp only [List.head?_cons, Option.some.injEq] at hq
        unfold valueL
        simp only
        rw [if_neg hq]
    rw [e]; exact h
end Go.Proofs.Qxb6000614aDoor
