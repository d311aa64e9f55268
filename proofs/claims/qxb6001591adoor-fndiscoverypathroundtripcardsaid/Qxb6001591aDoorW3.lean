/-
  WALKS of seat b6001591aD: ZZReadDiscoveryPath, the bound, zzRenderDiscovery.
-/
import Derived.Test.Qxb6001591aDoorW2
set_option linter.unusedVariables false
namespace Go.Proofs.Qxb6001591aDoor
open Go.RowKit Go.Lib

set_option maxHeartbeats 1000000 in
theorem read8 (pth : ByteArray) (d : Int) (c : Bool) (g v : ByteArray) (w : World)
    (h : Calls Tryd.prog 16 #[.string pth] w fun e w' => e = .returned (.tuple #[.agg #[.int .i64 d, .bool c, .string g, .string v], .bool true]) ∧ Below w.heap.size w w') :
    Calls Tryd.prog 8 #[.string pth] w fun e w' => e = .returned (.tuple #[.int .i64 d, .bool c, .string g, .string v, .bool true]) ∧ Below w.heap.size w w' := by
  have HC := hide h
  clear h
  go_enter Tryd.func8, Tryd.ntmps8
  go_wp2_with fail
  refine (unhide HC).mono ?_
  rintro e w1 ⟨rfl, hb⟩
  have HB := hide (hb.alloc hb.size (.cells #[.int .i64 d, .bool c, .string g, .string v] 36))
  have hX := heap_alloc_new w1 (.cells #[.int .i64 d, .bool c, .string g, .string v] 36)
  have c0 : (w1.alloc (.cells #[.int .i64 d, .bool c, .string g, .string v] 36)).cell? ⟨w1.heap.size, 0, none⟩ = some (.int .i64 d) := cell_of hX rfl
  have c1 : (w1.alloc (.cells #[.int .i64 d, .bool c, .string g, .string v] 36)).cell? ⟨w1.heap.size, 1, none⟩ = some (.bool c) := cell_of hX rfl
  have c2 : (w1.alloc (.cells #[.int .i64 d, .bool c, .string g, .string v] 36)).cell? ⟨w1.heap.size, 2, none⟩ = some (.string g) := cell_of hX rfl
  have c3 : (w1.alloc (.cells #[.int .i64 d, .bool c, .string g, .string v] 36)).cell? ⟨w1.heap.size, 3, none⟩ = some (.string v) := cell_of hX rfl
  clear hb hX HC
  go_wp2_with fail
  generalize hW : w1.alloc (.cells #[.int .i64 d, .bool c, .string g, .string v] 36) = W at *
  generalize hk : w1.heap.size = k at *
  clear hW hk
  go_quiet (fail)
  go_wp2
  exact bodyPost_ret (v := .tuple #[.int .i64 d, .bool c, .string g, .string v, .bool true]) (by simp [results, Tryd.results8, go_sem]) rfl ⟨rfl, (unhide HB).trans ⟨rfl, rfl, rfl, Nat.le_refl _, fun _ _ => rfl⟩⟩

def BE (n : Nat) (e : Ending) : Prop := ∃ b : Bool, e = .returned (.bool b) ∧ (b = true → n ≤ 1048576)
theorem bounds_any (doc : Int) (core : Bool) (g v : ByteArray) (w : World) (hg : g.size ≤ maxLen) (hv : v.size ≤ maxLen) : Calls Tryd.prog 11 #[.int .i64 doc, .bool core, .string g, .string v] w fun e w' => BE (g.size + v.size) e ∧ w' = w := by
  unfold maxLen at hg hv
  generalize hG : g.size = a at *
  generalize hV : v.size = b at *
  by_cases h1 : (1048576 : Int) < (a : Int)
  · go_enter Tryd.func11, Tryd.ntmps11
    go_wp2
    go_ret
    exact ⟨⟨false, rfl, fun h => by cases h⟩, rfl⟩
  have h1' : (a : Int) ≤ 1048576 := by omega
  by_cases h2 : (1048576 : Int) < (b : Int)
  · go_enter Tryd.func11, Tryd.ntmps11
    go_wp2
    go_ret
    exact ⟨⟨false, rfl, fun h => by cases h⟩, rfl⟩
  have h2' : (b : Int) ≤ 1048576 := by omega
  by_cases h3 : (1048576 : Int) < (a : Int) + (b : Int)
  · go_enter Tryd.func11, Tryd.ntmps11
    go_wp2
    go_ret
    exact ⟨⟨false, rfl, fun h => by cases h⟩, rfl⟩
  have h3' : (a : Int) + (b : Int) ≤ 1048576 := by omega
  go_enter Tryd.func11, Tryd.ntmps11
  go_wp2
  go_ret
  exact ⟨⟨true, rfl, fun _ => by omega⟩, rfl⟩

/-- What zzRenderDiscovery gives where it says yes. -/
def Rend (doc : Int) (core : Bool) (g v s : ByteArray) : Prop :=
  (doc = 0 ∧ core = false ∧ g = ⟨#[]⟩ ∧ v = ⟨#[]⟩ ∧ s = bstr (jn [sVersion])) ∨
  (doc = 1 ∧ core = true ∧ g = ⟨#[]⟩ ∧ v = ⟨#[]⟩ ∧ s = bstr (jn [sApi])) ∨
  (doc = 1 ∧ core = false ∧ g = ⟨#[]⟩ ∧ v = ⟨#[]⟩ ∧ s = bstr (jn [sApis])) ∨
  (doc = 2 ∧ core = false ∧ Seg g.data.toList ∧ v = ⟨#[]⟩ ∧ s = bstr (jn [sApis, g.data.toList])) ∨
  (doc = 3 ∧ core = true ∧ g = ⟨#[]⟩ ∧ Seg v.data.toList ∧ s = bstr (jn [sApi, v.data.toList])) ∨
  (doc = 3 ∧ core = false ∧ Seg g.data.toList ∧ Seg v.data.toList ∧ s = bstr (jn [sApis, g.data.toList, v.data.toList]))
def REnd (doc : Int) (core : Bool) (g v : ByteArray) (e : Ending) : Prop := ∃ s b, e = .returned (.tuple #[.string s, .bool b]) ∧ (b = true → Rend doc core g v s)
theorem REnd.no (doc : Int) (core : Bool) (g v : ByteArray) : REnd doc core g v (.returned (.tuple #[.string ⟨#[]⟩, .bool false])) := ⟨_, _, rfl, fun h => by cases h⟩
theorem empty_of {g : ByteArray} (h : g.toList.isEmpty = true) : g = ⟨#[]⟩ := by
  rw [ByteArray.toList_eq] at h
  exact bytes_ext (List.isEmpty_iff.1 h)
theorem app_list (a b : ByteArray) : (a ++ b).data.toList = a.data.toList ++ b.data.toList := by
  rw [ByteArray.data_append, Array.toList_append]

set_option maxHeartbeats 2000000 in
theorem render_any (doc : Int) (core : Bool) (g v : ByteArray) (w : World) (hg : g.size ≤ 1048576) (hv : v.size ≤ 1048576) : Calls Tryd.prog 9 #[.int .i64 doc, .bool core, .string g, .string v] w fun e w' => REnd doc core g v e ∧ w' = w := by
  have HCG := hide (isSeg_any g w (by omega))
  have HCV := hide (isSeg_any v w (by omega))
  by_cases d0 : doc = 0
  · subst d0
    cases core with
    | true =>
      go_enter Tryd.func9, Tryd.ntmps9
      go_wp2
      go_ret2
      exact ⟨REnd.no _ _ _ _, rfl⟩
    | false =>
      cases eg : g.toList.isEmpty with
      | false =>
        go_enter Tryd.func9, Tryd.ntmps9
        go_wp2
        go_ret2
        exact ⟨REnd.no _ _ _ _, rfl⟩
      | true =>
        cases ev : v.toList.isEmpty with
        | false =>
          go_enter Tryd.func9, Tryd.ntmps9
          go_wp2
          go_ret2
          exact ⟨REnd.no _ _ _ _, rfl⟩
        | true =>
          go_enter Tryd.func9, Tryd.ntmps9
          go_wp2
          go_ret2
          exact ⟨⟨_, _, rfl, fun _ => .inl ⟨rfl, rfl, empty_of eg, empty_of ev, rfl⟩⟩, rfl⟩
  have b0 : (doc == 0) = false := beqf d0
  by_cases d1 : doc = 1
  · subst d1
    cases eg : g.toList.isEmpty with
    | false =>
      go_enter Tryd.func9, Tryd.ntmps9
      go_wp2
      go_ret2
      exact ⟨REnd.no _ _ _ _, rfl⟩
    | true =>
      cases ev : v.toList.isEmpty with
      | false =>
        go_enter Tryd.func9, Tryd.ntmps9
        go_wp2
        go_ret2
        exact ⟨REnd.no _ _ _ _, rfl⟩
      | true =>
        cases core with
        | true =>
          go_enter Tryd.func9, Tryd.ntmps9
          go_wp2
          go_ret2
          exact ⟨⟨_, _, rfl, fun _ => .inr (.inl ⟨rfl, rfl, empty_of eg, empty_of ev, rfl⟩)⟩, rfl⟩
        | false =>
          go_enter Tryd.func9, Tryd.ntmps9
          go_wp2
          go_ret2
          exact ⟨⟨_, _, rfl, fun _ => .inr (.inr (.inl ⟨rfl, rfl, empty_of eg, empty_of ev, rfl⟩))⟩, rfl⟩
  have b1 : (doc == 1) = false := beqf d1
  by_cases d2 : doc = 2
  · subst d2
    cases core with
    | true =>
      go_enter Tryd.func9, Tryd.ntmps9
      go_wp2
      go_ret2
      exact ⟨REnd.no _ _ _ _, rfl⟩
    | false =>
      go_enter Tryd.func9, Tryd.ntmps9
      go_wp2_with fail
      refine (unhide HCG).mono ?_
      rintro e w1 ⟨rfl, hw⟩
      have hw2 := hw.symm; subst hw2
      clear hw HCG HCV
      cases sg : segB g.data.toList with
      | false =>
        go_wp2
        go_ret2
        exact ⟨REnd.no _ _ _ _, rfl⟩
      | true =>
        have SG := hide ((segB_iff _).1 sg)
        clear sg
        cases ev : v.toList.isEmpty with
        | false =>
          go_wp2
          go_ret2
          exact ⟨REnd.no _ _ _ _, rfl⟩
        | true =>
          go_wp2
          go_ret2
          refine ⟨⟨_, _, rfl, fun _ => .inr (.inr (.inr (.inl ⟨rfl, rfl, unhide SG, empty_of ev, ?_⟩)))⟩, rfl⟩
          refine bytes_ext ?_
          rw [app_list]; rfl
  have b2 : (doc == 2) = false := beqf d2
  by_cases d3 : doc = 3
  · subst d3
    go_enter Tryd.func9, Tryd.ntmps9
    go_wp2_with fail
    refine (unhide HCV).mono ?_
    rintro e w1 ⟨rfl, hw⟩
    have hw2 := hw.symm; subst hw2
    clear hw HCV
    cases sv : segB v.data.toList with
    | false =>
      go_wp2
      go_ret2
      exact ⟨REnd.no _ _ _ _, rfl⟩
    | true =>
      have SV := hide ((segB_iff _).1 sv)
      clear sv
      cases core with
      | true =>
        cases eg : g.toList.isEmpty with
        | false =>
          go_wp2
          go_ret2
          exact ⟨REnd.no _ _ _ _, rfl⟩
        | true =>
          go_wp2
          go_ret2
          refine ⟨⟨_, _, rfl, fun _ => .inr (.inr (.inr (.inr (.inl ⟨rfl, rfl, empty_of eg, unhide SV, ?_⟩))))⟩, rfl⟩
          refine bytes_ext ?_
          rw [app_list]; rfl
      | false =>
        go_wp2_with fail
        refine (unhide HCG).mono ?_
        rintro e w1 ⟨rfl, hw⟩
        have hw2 := hw.symm; subst hw2
        clear hw HCG
        cases sg : segB g.data.toList with
        | false =>
          go_wp2
          go_ret2
          exact ⟨REnd.no _ _ _ _, rfl⟩
        | true =>
          have SG := hide ((segB_iff _).1 sg)
          clear sg
          go_wp2
          go_ret2
          refine ⟨⟨_, _, rfl, fun _ => .inr (.inr (.inr (.inr (.inr ⟨rfl, rfl, unhide SG, unhide SV, ?_⟩))))⟩, rfl⟩
          refine bytes_ext ?_
          rw [app_list, app_list, app_list]
          show ([97, 112, 105, 115, 47] ++ g.data.toList ++ [47]) ++ v.data.toList = [97, 112, 105, 115] ++ 47 :: (g.data.toList ++ 47 :: v.data.toList)
          simp
  have b3 : (doc == 3) = false := beqf d3
  go_enter Tryd.func9, Tryd.ntmps9
  go_wp2
  go_ret2
  exact ⟨REnd.no _ _ _ _, rfl⟩
end Go.Proofs.Qxb6001591aDoor
