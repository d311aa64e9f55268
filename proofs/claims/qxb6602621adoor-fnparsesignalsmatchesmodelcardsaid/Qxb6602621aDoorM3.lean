/-
  WALKS of seat b6602621aD: the law FnParseSignalsMatchesModel.
-/
import Derived.Test.Qxb6602621aDoorM2
import Derived.Test.Qxb6602621aDoorW10
import Derived.Laws.CopyOwn
import Derived.Deep.OwnRows
namespace Go.Proofs.Qxb6602621aDoor
open Go.RowKit Go.Lib Go.Deep

/-! ### at nil -/
set_option maxHeartbeats 400000 in
theorem trimSpace_nil (w : World) : Calls Tryd.prog 17 #[.slice none 0 0] w fun e w' => (∃ v, e = .returned v ∧ SliceB w' v []) ∧ Below w.heap.size w w' := by
  go_enter Tryd.func17, Tryd.ntmps17
  go_wp2
  go_loop [9, 0] (fun i s0 => s0 = .slice none 0 0 ∧ i = .int .i64 0) (fun _ _ => 0)
  case atStart => exact ⟨rfl, rfl⟩
  case round =>
    obtain ⟨rfl, rfl⟩ := hrel
    go_wp2
    go_ret
    exact ⟨⟨_, rfl, .inl ⟨rfl, rfl⟩⟩, Below.refl _ _⟩
set_option maxHeartbeats 400000 in
theorem trimModel_nil (w : World) : Calls Tryd.prog 15 #[.slice none 0 0, .int .i64 0, .int .i64 0] w fun r w' => r = .returned (.tuple #[.int .i64 0, .int .i64 0]) ∧ w' = w := by
  go_enter Tryd.func15, Tryd.ntmps15
  go_wp2
  go_loop [1] (fun x => x = .int .i64 0) (fun _ => 0)
  case atStart => rfl
  case round =>
    subst hrel
    go_wp2
    go_loop [2] (fun x => x = .int .i64 0) (fun _ => 0)
    case atStart => rfl
    case round =>
      subst hrel
      go_wp2
      go_ret2
      exact ⟨rfl, rfl⟩
set_option maxHeartbeats 400000 in
theorem model_nil (w : World) : Calls Tryd.prog 8 #[.slice none 0 0] w fun r w' => MR none r ∧ w' = w := by
  have cT := trimModel_nil w
  go_enter Tryd.func8, Tryd.ntmps8
  go_wp2_with fail
  refine cT.mono ?_
  rintro r w' ⟨rfl, hw⟩
  have hw2 := hw.symm
  subst hw2
  go_wp2
  go_ret2
  exact ⟨rfl, rfl⟩

set_option maxHeartbeats 400000 in
theorem bytes6 (p : Option Addr) (n c : Nat) (w : World) (h : n ≤ 9223372036854775807) :
    Calls Tryd.prog 6 #[.slice p n c] w fun e w' => e = .returned (.bool (decide (n ≤ 1048576))) ∧ w' = w := by
  by_cases ha : n ≤ 1048576
  · rw [decide_eq_true ha]
    go_enter Tryd.func6, Tryd.ntmps6
    go_wp2
    go_ret
    exact ⟨rfl, rfl⟩
  · rw [decide_eq_false ha]
    go_enter Tryd.func6, Tryd.ntmps6
    go_wp2
    go_ret
    exact ⟨rfl, rfl⟩

/-! ### the copy -/
theorem hasB_row {w : World} {g : Nat} {l : List UInt8} (h : w.heap[g]? = some (.cells (cellsB l).toArray 5 (0, 0))) : HasB w g 0 l := by
  intro j hj
  simp [World.cell?, h, cellsB, hj]
theorem sz5 : (Tryd.prog.info? 5).map (·.size) = some 1 := by kernel_rfl
theorem cellsB_len (l : List UInt8) : (cellsB l).length = l.length := by simp [cellsB]
theorem made_len (n : Nat) : (madeCells #[Value.int .u8 0] n).toList.length = n := by simp [madeCells]

/-- 'copy(zzc, value)': zzc a new row of as many zeros. -/
theorem copy_all (ad : Addr) (cap : Nat) (l : List UInt8) (W : World) (g : Nat) (w0 : World) (hg : W.heap[g]? = some (.cells (madeCells #[Value.int .u8 0] l.length).toList.toArray 5 (0, 0)))
    (hb : Below g w0 W) (hV : View W (some ad) l) :
    ∃ w2, (Builtin.copy_ #[22, 22] 3 #[.slice (some ⟨g, 0, none⟩) l.length l.length, .slice (some ad) l.length cap]).run Tryd.prog W = .ok (goInt l.length) w2 ∧ w2.heap[g]? = some (.cells (cellsB l).toArray 5 (0, 0)) ∧ Below g w0 w2 := by
  by_cases h0 : l.length = 0
  · have hl : l = [] := List.eq_nil_of_length_eq_zero h0
    subst hl
    refine ⟨W, run_copy_none (P := Tryd.prog) W 22 22 3 5 _ _ 0 0 0 cap Tryd.underlying22 sz5 rfl, ?_, hb⟩
    rw [hg]; simp [madeCells, cellsB]
  · obtain ⟨b, o, e, hH⟩ := hV (by omega)
    cases e
    have hr := run_copy_row (P := Tryd.prog) W 22 22 3 5 g 0 l.length l.length ⟨b, o, none⟩ l.length cap (madeCells #[Value.int .u8 0] l.length).toList.toArray 5 (cellsB l) Tryd.underlying22 sz5 hg (by rw [cellsB_len]; exact (Nat.min_self _).symm)
      (fun j u hu => by obtain ⟨hj, rfl⟩ := cellsB_get hu; rw [addr_add]; exact hH j hj) (by simp [cellsB_len, madeCells]) (cells_one l)
    rw [cellsB_len] at hr
    refine ⟨_, hr, ?_, below_setRow hb (Nat.le_refl _) _⟩
    rw [setRow_heap W g _ _ 5 _ hg]
    congr 3
    rw [List.take_zero, List.nil_append, Nat.zero_add, List.drop_eq_nil_of_le (by simp [madeCells]), List.append_nil]

set_option maxHeartbeats 1000000 in
set_option maxRecDepth 100000 in
theorem law3_nil (w : World) (hS : Sents w) :
    Calls Tryd.prog 3 #[.slice none 0 0] w fun e w' => e = .returned (.bool true) ∧ Below w.heap.size w w' := by
  have cB := bytes6 none 0 0 w (by decide)
  have cZ := zzParse _ _ w (sig_any (.slice none 0 0) [] w (by decide) hS (trimSpace_nil w))
  have cZ : Calls Tryd.prog 7 #[.slice none 0 0] w fun e w' => PS none e ∧ Below w.heap.size w w' := cZ
  clear hS
  go_enter Tryd.func3, Tryd.ntmps3
  go_wp2_with fail
  refine cB.mono ?_
  rintro e W ⟨rfl, hW⟩
  have hw2 := hW.symm
  subst hw2
  clear cB hW
  go_wp2_with fail
  refine cZ.mono ?_
  rintro e W1 ⟨⟨N, rfl⟩, hb⟩
  clear cZ
  go_wp2_with fail
  refine (model_nil _).mono ?_
  rintro e W2 ⟨hr, hW⟩
  obtain rfl : e = _ := hr
  have hw2 := hW.symm
  subst hw2
  clear hW
  go_wp2
  go_ret
  exact ⟨rfl, hb⟩

set_option maxHeartbeats 1000000 in
set_option maxRecDepth 100000 in
theorem law3_some (ad : Addr) (cap : Nat) (l : List UInt8) (w : World) (hl : l.length ≤ 1048576) (hV : View w (some ad) l) (hT : Tabs w) (hS : Sents w) :
    Calls Tryd.prog 3 #[.slice (some ad) l.length cap] w fun e w' => e = .returned (.bool true) ∧ Below w.heap.size w w' := by
  obtain ⟨i0, hi, hz0, hz1, hz2⟩ := info_parts Tryd.info5
  have cB := bytes6 (some ad) l.length cap w (by omega)
  rw [decide_eq_true hl] at cB
  have HV := hide hV
  have HT := hide hT
  have HS := hide hS
  clear hV hT hS
  go_enter Tryd.func3, Tryd.ntmps3
  go_wp2_with fail
  refine cB.mono ?_
  rintro e W ⟨rfl, hW⟩
  have hw2 := hW.symm
  subst hw2
  clear cB hW
  go_wp2_with (at_make; refine wpList_make_row _ rfl _ _ 22 rfl 5 i0 (.int .u8 0) Tryd.underlying22 hi hz0 hz1 rfl _ _ l.length rfl rfl (by rw [hz2]; omega) (by omega) ?_)
  have hg1 : (w.alloc (.cells (madeCells #[.int .u8 0] l.length) 5)).heap[w.heap.size]? = some (.cells (madeCells #[Value.int .u8 0] l.length).toList.toArray 5 (0, 0)) := by
    rw [(MapKept.heap_alloc w _).1]
  have hb1 : Below w.heap.size w (w.alloc (.cells (madeCells #[.int .u8 0] l.length) 5)) := (Below.refl _ _).alloc (Nat.le_refl _) _
  generalize w.alloc (.cells (madeCells #[.int .u8 0] l.length) 5) = W1 at *
  obtain ⟨w2, hcp, hg2, hb2⟩ := copy_all ad cap l W1 w.heap.size w hg1 hb1 ((unhide HV).below hb1)
  have HG2 := hide hg2
  clear hg1 hg2
  have hH : HasB w2 w.heap.size 0 l := hasB_row (unhide HG2)
  have cZ := zzParse _ _ w2 (parseSig w.heap.size 0 l.length l w2 (Nat.le_refl _) (by omega) hH ((unhide HT).below hb2) ((unhide HS).below hb2))
  have cM := fun (w3 : World) (hb : Below w2.heap.size w2 w3) => model_any w.heap.size 0 l.length l w3 (by omega) (hH.below hb)
  rw [← trimSpaceU_eq] at cZ
  generalize psig (trimSpaceU l) = o at *
  have HM := hide cM
  have HCP := hide hcp
  clear hH HG2 cM hcp
  go_wp2_with fail
  rw [unhide HCP]
  simp only [Result.andThen]
  rw [Oper.upon_value]
  go_wp2_with fail
  refine cZ.mono ?_
  rintro e w3 ⟨hps, hb3⟩
  clear cZ
  cases o with
  | none =>
    obtain ⟨N, rfl⟩ := hps
    go_wp2_with fail
    refine (unhide HM _ hb3).mono ?_
    rintro e w4 ⟨hr, hW⟩
    obtain rfl : e = _ := hr
    have hw2 := hW.symm
    subst hw2
    clear hW
    go_wp2
    go_ret
    exact ⟨rfl, hb2.trans (hb3.mono hb2.size)⟩
  | some u =>
    obtain rfl : e = _ := hps
    go_wp2_with fail
    refine (unhide HM _ hb3).mono ?_
    rintro e w4 ⟨hr, hW⟩
    obtain rfl : e = _ := hr
    have hw2 := hW.symm
    subst hw2
    clear hW
    go_wp2
    go_ret
    exact ⟨rfl, hb2.trans (hb3.mono hb2.size)⟩

set_option maxHeartbeats 1000000 in
set_option maxRecDepth 100000 in
theorem law3_any (p : Option Addr) (cap : Nat) (l : List UInt8) (w : World) (hz : l.length ≤ maxLen) (hn : p = none → l = [] ∧ cap = 0) (hV : View w p l) (hT : Tabs w) (hS : Sents w) :
    Calls Tryd.prog 3 #[.slice p l.length cap] w fun e w' => e = .returned (.bool true) ∧ Below w.heap.size w w' := by
  unfold maxLen at hz
  by_cases hl : l.length ≤ 1048576
  · cases p with
    | none =>
      obtain ⟨rfl, rfl⟩ := hn rfl
      exact law3_nil w hS
    | some ad => exact law3_some ad cap l w hl hV hT hS
  · have cB := bytes6 p l.length cap w (by omega)
    rw [decide_eq_false hl] at cB
    clear hn hV hT hS
    go_enter Tryd.func3, Tryd.ntmps3
    go_wp2_with fail
    refine cB.mono ?_
    rintro e W ⟨rfl, hW⟩
    have hw2 := hW.symm
    subst hw2
    go_wp2
    go_ret
    exact ⟨rfl, Below.refl _ _⟩
end Go.Proofs.Qxb6602621aDoor
