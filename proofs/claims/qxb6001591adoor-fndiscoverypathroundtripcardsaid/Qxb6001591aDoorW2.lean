/-
  WALKS of seat b6001591aD: readDiscoveryPath.
-/
import Derived.Test.Qxb6001591aDoorW1
import Derived.Deep.OwnRows
set_option linter.unusedVariables false
namespace Go.Proofs.Qxb6001591aDoor
open Go.RowKit Go.Lib

def sVersion : List UInt8 := [118, 101, 114, 115, 105, 111, 110]
def sApi : List UInt8 := [97, 112, 105]
def sApis : List UInt8 := [97, 112, 105, 115]
theorem seg_version : Seg sVersion := ⟨by decide, by decide⟩
theorem seg_api : Seg sApi := ⟨by decide, by decide⟩
theorem seg_apis : Seg sApis := ⟨by decide, by decide⟩
theorem hm_alloc {w : World} {m : Int} (hm : w.cell? ⟨0, 0, none⟩ = some (.int .i64 m)) (o : Obj) : (w.alloc o).cell? ⟨0, 0, none⟩ = some (.int .i64 m) := (World.cell?_alloc_lt _ _ _ (World.block_lt_of_cell? w _ hm)).trans hm
theorem cell_of {w : World} {k j : Nat} {c : Array Value} {t : TypeId} {fz : Nat × Nat} {v : Value} (h : w.heap[k]? = some (.cells c t fz)) (hv : c[j]? = some v) : w.cell? ⟨k, j, none⟩ = some v := by
  unfold World.cell?
  rw [h]
  exact hv
/-- The result's struct while the call runs. -/
def Res (w0 w1 : World) : Prop := w1.heap[w0.heap.size]? = some (.cells #[.int .i64 0, .bool false, .string ⟨#[]⟩, .string ⟨#[]⟩] 36) ∧ Below w0.heap.size w0 w1
theorem Res.of {w0 w1 : World} (h : Below (w0.alloc (.cells #[.int .i64 0, .bool false, .string ⟨#[]⟩, .string ⟨#[]⟩] 36)).heap.size (w0.alloc (.cells #[.int .i64 0, .bool false, .string ⟨#[]⟩, .string ⟨#[]⟩] 36)) w1) : Res w0 w1 := by
  have h0 : Below w0.heap.size w0 (w0.alloc (.cells #[.int .i64 0, .bool false, .string ⟨#[]⟩, .string ⟨#[]⟩] 36)) := (Below.refl _ _).alloc (Nat.le_refl _) _
  refine ⟨(h.block _ (by simp)).trans (heap_alloc_new w0 _), h0.trans (h.mono h0.size)⟩
theorem Res.cells {w0 w1 : World} (h : Res w0 w1) : w1.cell? ⟨w0.heap.size, 0, none⟩ = some (.int .i64 0) ∧ w1.cell? ⟨w0.heap.size, 1, none⟩ = some (.bool false) ∧ w1.cell? ⟨w0.heap.size, 2, none⟩ = some (.string ⟨#[]⟩) ∧ w1.cell? ⟨w0.heap.size, 3, none⟩ = some (.string ⟨#[]⟩) :=
  ⟨cell_of h.1 rfl, cell_of h.1 rfl, cell_of h.1 rfl, cell_of h.1 rfl⟩
theorem Res.frozen {w0 w1 : World} (h : Res w0 w1) (i : Nat) : w1.frozen? ⟨w0.heap.size, i, none⟩ = false := by simp [World.frozen?, h.1]

/-- Four stores into the result's struct. -/
theorem res_set {w0 w1 : World} (h : Res w0 w1) (x0 x1 x2 x3 : Value) :
    ((((w1.setCell ⟨w0.heap.size, 0, none⟩ x0).setCell ⟨w0.heap.size, 1, none⟩ x1).setCell ⟨w0.heap.size, 2, none⟩ x2).setCell ⟨w0.heap.size, 3, none⟩ x3).rowIs w0.heap.size 36 4 (fun i => if i = 3 then x3 else if i = 2 then x2 else if i = 1 then x1 else x0) := by
  have hr : w1.rowIs w0.heap.size 36 4 (fun i => if i = 0 then .int .i64 0 else if i = 1 then .bool false else .string ⟨#[]⟩) := ⟨_, h.1, rfl, fun i hi => by
    have : i = 0 ∨ i = 1 ∨ i = 2 ∨ i = 3 := by omega
    rcases this with rfl | rfl | rfl | rfl <;> rfl⟩
  refine ((((hr.set 0 x0).set 1 x1).set 2 x2).set 3 x3).congr fun i hi => ?_
  have : i = 0 ∨ i = 1 ∨ i = 2 ∨ i = 3 := by omega
  rcases this with rfl | rfl | rfl | rfl <;> rfl
theorem res_cells {w0 w1 : World} (h : Res w0 w1) (x0 x1 x2 x3 : Value) :
    let W := (((w1.setCell ⟨w0.heap.size, 0, none⟩ x0).setCell ⟨w0.heap.size, 1, none⟩ x1).setCell ⟨w0.heap.size, 2, none⟩ x2).setCell ⟨w0.heap.size, 3, none⟩ x3
    W.cell? ⟨w0.heap.size, 0, none⟩ = some x0 ∧ W.cell? ⟨w0.heap.size, 1, none⟩ = some x1 ∧ W.cell? ⟨w0.heap.size, 2, none⟩ = some x2 ∧ W.cell? ⟨w0.heap.size, 3, none⟩ = some x3 :=
  ⟨(res_set h x0 x1 x2 x3).cell (i := 0) (by decide), (res_set h x0 x1 x2 x3).cell (i := 1) (by decide), (res_set h x0 x1 x2 x3).cell (i := 2) (by decide), (res_set h x0 x1 x2 x3).cell (i := 3) (by decide)⟩
theorem set4 {w : World} {k g1 : Nat} (hne : g1 ≠ k) (x0 x1 x2 x3 : Value) (j : Nat) : ((((w.setCell ⟨k, 0, none⟩ x0).setCell ⟨k, 1, none⟩ x1).setCell ⟨k, 2, none⟩ x2).setCell ⟨k, 3, none⟩ x3).cell? ⟨g1, j, none⟩ = w.cell? ⟨g1, j, none⟩ := by
  rw [World.cell?_setCell_far _ _ _ _ (Ne.symm hne), World.cell?_setCell_far _ _ _ _ (Ne.symm hne), World.cell?_setCell_far _ _ _ _ (Ne.symm hne), World.cell?_setCell_far _ _ _ _ (Ne.symm hne)]
theorem res_below {w0 w1 : World} (h : Res w0 w1) (x0 x1 x2 x3 : Value) : Below w0.heap.size w0 ((((w1.setCell ⟨w0.heap.size, 0, none⟩ x0).setCell ⟨w0.heap.size, 1, none⟩ x1).setCell ⟨w0.heap.size, 2, none⟩ x2).setCell ⟨w0.heap.size, 3, none⟩ x3) :=
  (((h.2.setCell (Nat.le_refl _) _).setCell (Nat.le_refl _) _).setCell (Nat.le_refl _) _).setCell (Nat.le_refl _) _

set_option maxHeartbeats 2000000 in
theorem read_version  (m : Int) (w : World) (hm : w.cell? ⟨0, 0, none⟩ = some (.int .i64 m)) : Calls Tryd.prog 16 #[.string (bstr (47 :: jn [sVersion]))] w fun e w' => e = .returned (.tuple #[.agg #[.int .i64 0, .bool false, .string ⟨#[]⟩, .string ⟨#[]⟩], .bool true]) ∧ Below w.heap.size w w' := by
  have hfirst := seg_version
  have hlen : (jn [sVersion]).length ≤ 1000000000 := by simp [jn, sVersion]
  have HC := hide (fun (W : World) (h : W.cell? ⟨0, 0, none⟩ = some (.int .i64 m)) => segs_any sVersion [] m W (by intro x hx; simp at hx; subst hx; exact hfirst) hlen (by simp) h)
  have HM := hide hm
  clear hm hfirst hlen
  generalize hP : bstr (47 :: jn [sVersion]) = pth at *
  have hx : (bstr sVersion).toList = [118, 101, 114, 115, 105, 111, 110] := by rw [ByteArray.toList_eq]; rfl
  generalize hX : bstr sVersion = x0 at *
  clear hP
  go_enter Tryd.func16, Tryd.ntmps16
  go_wp2_with fail
  refine (unhide HC _ (hm_alloc (unhide HM) _)).mono ?_
  rintro e w1 ⟨⟨g1, c1, rfl, hseg⟩, hb⟩
  have HR := hide (Res.of hb)
  have s0 : w1.cell? ⟨g1, 0, none⟩ = some (.string x0) := by rw [← hX]; exact hseg 0 (by simp)
  obtain ⟨r0, r1, r2, r3⟩ := (unhide HR).cells
  have f0 := (unhide HR).frozen 0
  have f1 := (unhide HR).frozen 1
  have f2 := (unhide HR).frozen 2
  have f3 := (unhide HR).frozen 3
  clear hseg hb HC hX
  go_wp2
  obtain ⟨z0, z1, z2, z3⟩ := res_cells (unhide HR) (.int .i64 0) (.bool false) (.string ⟨#[]⟩) (.string ⟨#[]⟩)
  exact bodyPost_ret (v := .tuple #[.agg #[.int .i64 0, .bool false, .string ⟨#[]⟩, .string ⟨#[]⟩], .bool true]) (by simp [results, Tryd.results16, go_sem, z0, z1, z2, z3]) rfl ⟨rfl, res_below (unhide HR) (.int .i64 0) (.bool false) (.string ⟨#[]⟩) (.string ⟨#[]⟩)⟩
set_option maxHeartbeats 2000000 in
theorem read_api  (m : Int) (w : World) (hm : w.cell? ⟨0, 0, none⟩ = some (.int .i64 m)) : Calls Tryd.prog 16 #[.string (bstr (47 :: jn [sApi]))] w fun e w' => e = .returned (.tuple #[.agg #[.int .i64 1, .bool true, .string ⟨#[]⟩, .string ⟨#[]⟩], .bool true]) ∧ Below w.heap.size w w' := by
  have hfirst := seg_api
  have hlen : (jn [sApi]).length ≤ 1000000000 := by simp [jn, sApi]
  have HC := hide (fun (W : World) (h : W.cell? ⟨0, 0, none⟩ = some (.int .i64 m)) => segs_any sApi [] m W (by intro x hx; simp at hx; subst hx; exact hfirst) hlen (by simp) h)
  have HM := hide hm
  clear hm hfirst hlen
  generalize hP : bstr (47 :: jn [sApi]) = pth at *
  have hx : (bstr sApi).toList = [97, 112, 105] := by rw [ByteArray.toList_eq]; rfl
  generalize hX : bstr sApi = x0 at *
  clear hP
  go_enter Tryd.func16, Tryd.ntmps16
  go_wp2_with fail
  refine (unhide HC _ (hm_alloc (unhide HM) _)).mono ?_
  rintro e w1 ⟨⟨g1, c1, rfl, hseg⟩, hb⟩
  have HR := hide (Res.of hb)
  have s0 : w1.cell? ⟨g1, 0, none⟩ = some (.string x0) := by rw [← hX]; exact hseg 0 (by simp)
  obtain ⟨r0, r1, r2, r3⟩ := (unhide HR).cells
  have f0 := (unhide HR).frozen 0
  have f1 := (unhide HR).frozen 1
  have f2 := (unhide HR).frozen 2
  have f3 := (unhide HR).frozen 3
  clear hseg hb HC hX
  go_wp2
  obtain ⟨z0, z1, z2, z3⟩ := res_cells (unhide HR) (.int .i64 1) (.bool true) (.string ⟨#[]⟩) (.string ⟨#[]⟩)
  exact bodyPost_ret (v := .tuple #[.agg #[.int .i64 1, .bool true, .string ⟨#[]⟩, .string ⟨#[]⟩], .bool true]) (by simp [results, Tryd.results16, go_sem, z0, z1, z2, z3]) rfl ⟨rfl, res_below (unhide HR) (.int .i64 1) (.bool true) (.string ⟨#[]⟩) (.string ⟨#[]⟩)⟩
set_option maxHeartbeats 2000000 in
theorem read_apis  (m : Int) (w : World) (hm : w.cell? ⟨0, 0, none⟩ = some (.int .i64 m)) : Calls Tryd.prog 16 #[.string (bstr (47 :: jn [sApis]))] w fun e w' => e = .returned (.tuple #[.agg #[.int .i64 1, .bool false, .string ⟨#[]⟩, .string ⟨#[]⟩], .bool true]) ∧ Below w.heap.size w w' := by
  have hfirst := seg_apis
  have hlen : (jn [sApis]).length ≤ 1000000000 := by simp [jn, sApis]
  have HC := hide (fun (W : World) (h : W.cell? ⟨0, 0, none⟩ = some (.int .i64 m)) => segs_any sApis [] m W (by intro x hx; simp at hx; subst hx; exact hfirst) hlen (by simp) h)
  have HM := hide hm
  clear hm hfirst hlen
  generalize hP : bstr (47 :: jn [sApis]) = pth at *
  have hx : (bstr sApis).toList = [97, 112, 105, 115] := by rw [ByteArray.toList_eq]; rfl
  generalize hX : bstr sApis = x0 at *
  clear hP
  go_enter Tryd.func16, Tryd.ntmps16
  go_wp2_with fail
  refine (unhide HC _ (hm_alloc (unhide HM) _)).mono ?_
  rintro e w1 ⟨⟨g1, c1, rfl, hseg⟩, hb⟩
  have HR := hide (Res.of hb)
  have s0 : w1.cell? ⟨g1, 0, none⟩ = some (.string x0) := by rw [← hX]; exact hseg 0 (by simp)
  obtain ⟨r0, r1, r2, r3⟩ := (unhide HR).cells
  have f0 := (unhide HR).frozen 0
  have f1 := (unhide HR).frozen 1
  have f2 := (unhide HR).frozen 2
  have f3 := (unhide HR).frozen 3
  clear hseg hb HC hX
  go_wp2
  obtain ⟨z0, z1, z2, z3⟩ := res_cells (unhide HR) (.int .i64 1) (.bool false) (.string ⟨#[]⟩) (.string ⟨#[]⟩)
  exact bodyPost_ret (v := .tuple #[.agg #[.int .i64 1, .bool false, .string ⟨#[]⟩, .string ⟨#[]⟩], .bool true]) (by simp [results, Tryd.results16, go_sem, z0, z1, z2, z3]) rfl ⟨rfl, res_below (unhide HR) (.int .i64 1) (.bool false) (.string ⟨#[]⟩) (.string ⟨#[]⟩)⟩
set_option maxHeartbeats 2000000 in
theorem read_api_v (v : List UInt8) (hv : Seg v) (zv : v.length ≤ 1048576) (m : Int) (w : World) (hm : w.cell? ⟨0, 0, none⟩ = some (.int .i64 m)) : Calls Tryd.prog 16 #[.string (bstr (47 :: jn [sApi, v]))] w fun e w' => e = .returned (.tuple #[.agg #[.int .i64 3, .bool true, .string ⟨#[]⟩, .string (bstr v)], .bool true]) ∧ Below w.heap.size w w' := by
  have hfirst := seg_api
  have hlen : (jn [sApi, v]).length ≤ 1000000000 := by simp [jn, sApi]; omega
  have HC := hide (fun (W : World) (h : W.cell? ⟨0, 0, none⟩ = some (.int .i64 m)) => segs_any sApi [v] m W (by intro x hx; simp at hx; rcases hx with rfl | rfl <;> assumption) hlen (by simp) h)
  have HM := hide hm
  clear hm hfirst hlen
  generalize hP : bstr (47 :: jn [sApi, v]) = pth at *
  have hx : (bstr sApi).toList = [97, 112, 105] := by rw [ByteArray.toList_eq]; rfl
  generalize hX : bstr sApi = x0 at *
  clear hP
  go_enter Tryd.func16, Tryd.ntmps16
  go_wp2_with fail
  refine (unhide HC _ (hm_alloc (unhide HM) _)).mono ?_
  rintro e w1 ⟨⟨g1, c1, rfl, hseg⟩, hb⟩
  have HR := hide (Res.of hb)
  have s0 : w1.cell? ⟨g1, 0, none⟩ = some (.string x0) := by rw [← hX]; exact hseg 0 (by simp)
  have s1 : w1.cell? ⟨g1, 1, none⟩ = some (.string (bstr v)) := hseg 1 (by simp)
  obtain ⟨r0, r1, r2, r3⟩ := (unhide HR).cells
  have f0 := (unhide HR).frozen 0
  have f1 := (unhide HR).frozen 1
  have f2 := (unhide HR).frozen 2
  have f3 := (unhide HR).frozen 3
  clear hseg hb HC hX
  generalize hyv : bstr v = yv at *
  go_wp2
  subst hyv
  obtain ⟨z0, z1, z2, z3⟩ := res_cells (unhide HR) (.int .i64 3) (.bool true) (.string ⟨#[]⟩) (.string (bstr v))
  exact bodyPost_ret (v := .tuple #[.agg #[.int .i64 3, .bool true, .string ⟨#[]⟩, .string (bstr v)], .bool true]) (by simp [results, Tryd.results16, go_sem, z0, z1, z2, z3]) rfl ⟨rfl, res_below (unhide HR) (.int .i64 3) (.bool true) (.string ⟨#[]⟩) (.string (bstr v))⟩
set_option maxHeartbeats 2000000 in
theorem read_apis_g (g : List UInt8) (hg : Seg g) (zg : g.length ≤ 1048576) (m : Int) (w : World) (hm : w.cell? ⟨0, 0, none⟩ = some (.int .i64 m)) : Calls Tryd.prog 16 #[.string (bstr (47 :: jn [sApis, g]))] w fun e w' => e = .returned (.tuple #[.agg #[.int .i64 2, .bool false, .string (bstr g), .string ⟨#[]⟩], .bool true]) ∧ Below w.heap.size w w' := by
  have hfirst := seg_apis
  have hlen : (jn [sApis, g]).length ≤ 1000000000 := by simp [jn, sApis]; omega
  have HC := hide (fun (W : World) (h : W.cell? ⟨0, 0, none⟩ = some (.int .i64 m)) => segs_any sApis [g] m W (by intro x hx; simp at hx; rcases hx with rfl | rfl <;> assumption) hlen (by simp) h)
  have HM := hide hm
  clear hm hfirst hlen
  generalize hP : bstr (47 :: jn [sApis, g]) = pth at *
  have hx : (bstr sApis).toList = [97, 112, 105, 115] := by rw [ByteArray.toList_eq]; rfl
  generalize hX : bstr sApis = x0 at *
  clear hP
  go_enter Tryd.func16, Tryd.ntmps16
  go_wp2_with fail
  refine (unhide HC _ (hm_alloc (unhide HM) _)).mono ?_
  rintro e w1 ⟨⟨g1, c1, rfl, hseg⟩, hb⟩
  have HR := hide (Res.of hb)
  have s0 : w1.cell? ⟨g1, 0, none⟩ = some (.string x0) := by rw [← hX]; exact hseg 0 (by simp)
  have s1 : w1.cell? ⟨g1, 1, none⟩ = some (.string (bstr g)) := hseg 1 (by simp)
  obtain ⟨r0, r1, r2, r3⟩ := (unhide HR).cells
  have f0 := (unhide HR).frozen 0
  have f1 := (unhide HR).frozen 1
  have f2 := (unhide HR).frozen 2
  have f3 := (unhide HR).frozen 3
  clear hseg hb HC hX
  generalize hyg : bstr g = yg at *
  go_wp2
  subst hyg
  obtain ⟨z0, z1, z2, z3⟩ := res_cells (unhide HR) (.int .i64 2) (.bool false) (.string (bstr g)) (.string ⟨#[]⟩)
  exact bodyPost_ret (v := .tuple #[.agg #[.int .i64 2, .bool false, .string (bstr g), .string ⟨#[]⟩], .bool true]) (by simp [results, Tryd.results16, go_sem, z0, z1, z2, z3]) rfl ⟨rfl, res_below (unhide HR) (.int .i64 2) (.bool false) (.string (bstr g)) (.string ⟨#[]⟩)⟩
set_option maxHeartbeats 2000000 in
theorem read_apis_gv (g : List UInt8) (hg : Seg g) (zg : g.length ≤ 1048576) (v : List UInt8) (hv : Seg v) (zv : v.length ≤ 1048576) (m : Int) (w : World) (hm : w.cell? ⟨0, 0, none⟩ = some (.int .i64 m)) : Calls Tryd.prog 16 #[.string (bstr (47 :: jn [sApis, g, v]))] w fun e w' => e = .returned (.tuple #[.agg #[.int .i64 3, .bool false, .string (bstr g), .string (bstr v)], .bool true]) ∧ Below w.heap.size w w' := by
  have hfirst := seg_apis
  have hlen : (jn [sApis, g, v]).length ≤ 1000000000 := by simp [jn, sApis]; omega
  have HC := hide (fun (W : World) (h : W.cell? ⟨0, 0, none⟩ = some (.int .i64 m)) => segs_any sApis [g, v] m W (by intro x hx; simp at hx; rcases hx with rfl | rfl | rfl <;> assumption) hlen (by simp) h)
  have HM := hide hm
  clear hm hfirst hlen
  generalize hP : bstr (47 :: jn [sApis, g, v]) = pth at *
  have hx : (bstr sApis).toList = [97, 112, 105, 115] := by rw [ByteArray.toList_eq]; rfl
  generalize hX : bstr sApis = x0 at *
  clear hP
  go_enter Tryd.func16, Tryd.ntmps16
  go_wp2_with fail
  refine (unhide HC _ (hm_alloc (unhide HM) _)).mono ?_
  rintro e w1 ⟨⟨g1, c1, rfl, hseg⟩, hb⟩
  have HR := hide (Res.of hb)
  have s0 : w1.cell? ⟨g1, 0, none⟩ = some (.string x0) := by rw [← hX]; exact hseg 0 (by simp)
  have s1 : w1.cell? ⟨g1, 1, none⟩ = some (.string (bstr g)) := hseg 1 (by simp)
  have s2 : w1.cell? ⟨g1, 2, none⟩ = some (.string (bstr v)) := hseg 2 (by simp)
  obtain ⟨r0, r1, r2, r3⟩ := (unhide HR).cells
  have f0 := (unhide HR).frozen 0
  have f1 := (unhide HR).frozen 1
  have f2 := (unhide HR).frozen 2
  have f3 := (unhide HR).frozen 3
  clear hseg hb HC hX
  generalize hyg : bstr g = yg at *
  generalize hyv : bstr v = yv at *
  have hne : g1 ≠ w.heap.size := fun e => by rw [← e] at r1; rw [s1] at r1; cases r1
  go_wp2_with fail
  go_region_held3 (fun w' => w'.cell? ⟨g1, 1, none⟩ = some (.string yg) ∧ w'.cell? ⟨g1, 2, none⟩ = some (.string yv)) (first | exact ⟨s1, s2⟩ | exact ⟨(set4 hne _ _ _ _ 1).trans s1, (set4 hne _ _ _ _ 2).trans s2⟩) (fail)
  go_wp2
  subst hyg
  subst hyv
  obtain ⟨z0, z1, z2, z3⟩ := res_cells (unhide HR) (.int .i64 3) (.bool false) (.string (bstr g)) (.string (bstr v))
  have HB3 := (res_below (unhide HR) (.int .i64 3) (.bool false) (.string (bstr g)) (.string (bstr v))).drew
  exact bodyPost_ret (v := .tuple #[.agg #[.int .i64 3, .bool false, .string (bstr g), .string (bstr v)], .bool true]) (by simp [results, Tryd.results16, go_sem, z0, z1, z2, z3]) rfl ⟨rfl, HB3⟩
end Go.Proofs.Qxb6001591aDoor
