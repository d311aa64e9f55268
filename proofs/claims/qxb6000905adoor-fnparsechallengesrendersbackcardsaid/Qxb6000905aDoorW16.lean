/-
  WALKS of seat b6000905aD: cloneModels.
-/
import Derived.Test.Qxb6000905aDoorW15
import Derived.Deep.RegionHeld3
set_option linter.unusedVariables false
namespace Go.Proofs.Qxb6000905aDoor
open Go.RowKit Go.Lib

theorem Tryd.info27 : (Tryd.prog.info? 27).map (fun i => (i.zero, i.size, i.bytes)) = some (some (.agg #[.string ⟨#[]⟩, .slice none 0 0, .slice none 0 0]), 3, 64) := by kernel_rfl
/-- The make of a row of structs. -/
theorem wpList_make_rows {P : Program} (w : World) {ops : Array Oper} {rest : List Oper} {o : Oper} {a : Act} {Q : Exit → Act → World → Prop}
    (hg : o.guard = none) (l c : Operand) (t : TypeId) (hop : o.op = Op.makeSlice t l c)
    (e : TypeId) (i : TypeInfo) (z : Value) (ht : P.underlying t = some (.slice e)) (hi : P.info? e = some i) (hz : i.zero = some z)
    (kl kc : IntKind) (n : Nat) (hl : a.eval l = .int kl (n : Int)) (hc : a.eval c = .int kc (n : Int)) (hbytes : i.bytes * n ≤ 281474976710656) (h63 : n ≤ 9223372036854775807)
    (hK : wpList P ops Q rest (a.put o.dst (.slice (some ⟨w.heap.size, 0, none⟩) n n)) (w.alloc (.cells (madeCells z.cells (n * i.size)) e))) :
    wpList P ops Q (o :: rest) a w := by
  refine wpList_plain hg fun K hK' => ?_
  have hb' : (i.bytes : Int) * (n : Int) ≤ 281474976710656 := by
    have h : ((i.bytes * n : Nat) : Int) ≤ 281474976710656 := by omega
    rwa [Int.natCast_mul] at h
  have hrun := run_make (P := P) w t e i z ht hi hz kl kc n n (by omega) (Int.le_refl _) hb' (by omega)
  rw [Int.toNat_natCast] at hrun
  unfold Oper.wp
  simp [execOp, hop, hl, hc, hrun, Result.andThen]
  exact hK' _ _ hK

/-- The content of a model. -/
def key (m : Mdl) : ByteArray × List ByteArray × List ByteArray := (m.1, m.2.1.2.2, m.2.2.2.2)
/-- The row of the models that are done. -/
def mF (done : List Mdl) (j : Nat) : Value :=
  match done[j / 3]? with
  | some m => if j % 3 = 0 then .string m.1 else if j % 3 = 1 then m.2.1.val else m.2.2.val
  | none => if j % 3 = 0 then .string ⟨#[]⟩ else .slice none 0 0
theorem mF_start (w : World) (n : Nat) : (w.alloc (.cells (madeCells #[.string ⟨#[]⟩, .slice none 0 0, .slice none 0 0] (n * 3)) 27)).rowIs w.heap.size 27 (n * 3) (mF []) := by
  refine ⟨_, heap_alloc_new _ _, size_madeCells _ _, fun i hi => ?_⟩
  unfold madeCells mF
  simp [hi]
  have h3 : i % 3 = 0 ∨ i % 3 = 1 ∨ i % 3 = 2 := by omega
  rcases h3 with h | h | h <;> simp [h]
theorem mF_step {w : World} {g n : Nat} {done : List Mdl} {m : Mdl} (h : w.rowIs g 27 (n * 3) (mF done)) :
    (((w.setCell ⟨g, done.length * 3, none⟩ (.string m.1)).setCell ⟨g, done.length * 3 + 1, none⟩ m.2.1.val).setCell ⟨g, done.length * 3 + 2, none⟩ m.2.2.val).rowIs g 27 (n * 3) (mF (done ++ [m])) := by
  refine (((h.set (done.length * 3) _).set (done.length * 3 + 1) _).set (done.length * 3 + 2) _).congr fun j hj => ?_
  unfold mF
  by_cases h1 : j / 3 < done.length
  · rw [if_neg (by omega), if_neg (by omega), if_neg (by omega), List.getElem?_append_left h1]
  · by_cases h2 : j / 3 = done.length
    · have e : (done ++ [m])[j / 3]? = some m := by rw [h2]; simp
      rw [e]
      have h3 : j % 3 = 0 ∨ j % 3 = 1 ∨ j % 3 = 2 := by omega
      rcases h3 with h3 | h3 | h3
      · rw [if_neg (by omega), if_neg (by omega), if_pos (by omega)]; simp [h3]
      · rw [if_neg (by omega), if_pos (by omega)]; simp [h3]
      · rw [if_pos (by omega)]; simp [h3]
    · rw [if_neg (by omega), if_neg (by omega), if_neg (by omega), List.getElem?_eq_none (by omega), List.getElem?_eq_none (by simp; omega)]
theorem mF_view {w : World} {g : Nat} {done : List Mdl} (h : w.rowIs g 27 (done.length * 3) (mF done)) (hok : ∀ m ∈ done, m.Ok w) : ViewM w (some ⟨g, 0, none⟩) done := by
  intro _
  refine ⟨g, 0, rfl, fun j hj => ?_⟩
  have e : ∀ k, k < 3 → done[(j * 3 + k) / 3]? = some done[j] := fun k hk => by
    rw [show (j * 3 + k) / 3 = j by omega, List.getElem?_eq_getElem hj]
  refine ⟨?_, ?_, ?_, hok _ (List.getElem_mem hj)⟩
  · rw [Nat.zero_add, h.cell (by omega)]
    have := e 0 (by omega)
    unfold mF
    rw [show j * 3 = j * 3 + 0 from rfl, this]; simp
  · rw [Nat.zero_add, h.cell (by omega)]
    have := e 1 (by omega)
    unfold mF
    rw [this]; simp [show (j * 3 + 1) % 3 = 1 by omega]
  · rw [Nat.zero_add, h.cell (by omega)]
    have := e 2 (by omega)
    unfold mF
    rw [this]; simp [show (j * 3 + 2) % 3 = 2 by omega]
theorem rowIs_below {w w' : World} {b t n : Nat} {f : Nat → Value} (h : w.rowIs b t n f) (hb : Below w.heap.size w w') : w'.rowIs b t n f := h.of_block (hb.block b h.lt)
theorem Mdl.Ok.below {w w' : World} {m : Mdl} (k : m.Ok w) (hb : Below w.heap.size w w') : m.Ok w' :=
  ⟨k.1, ⟨k.2.1.1, k.2.1.2.1, k.2.1.2.2.1, k.2.1.2.2.2.below hb⟩, ⟨k.2.2.1, k.2.2.2.1, k.2.2.2.2.1, k.2.2.2.2.2.below hb⟩⟩

/-- The slice lies behind block B. -/
def Sl.Far (B : Nat) (s : Sl) : Prop := ∀ a : Addr, s.1 = some a → B < a.block
theorem view_set {w : World} {p : Option Addr} {ss : List ByteArray} {g k : Nat} {v : Value} (h : ViewS w p ss) (hp : ∀ a : Addr, p = some a → g < a.block) : ViewS (w.setCell ⟨g, k, none⟩ v) p ss := by
  intro hl
  obtain ⟨b, o, rfl, hc⟩ := h hl
  have hne := hp _ rfl
  refine ⟨b, o, rfl, fun j hj => ?_⟩
  rw [World.cell?_of_block (w := w) (Below.heap_setCell _ _ _ _ (Nat.ne_of_gt hne))]
  exact hc j hj
theorem Sl.Ok.set {w : World} {s : Sl} {g k : Nat} {v : Value} (h : s.Ok w) (hp : s.Far g) : s.Ok (w.setCell ⟨g, k, none⟩ v) := ⟨h.1, h.2.1, h.2.2.1, view_set h.2.2.2 hp⟩
def Mdl.Far (B : Nat) (m : Mdl) : Prop := m.2.1.Far B ∧ m.2.2.Far B
theorem Mdl.Ok.set {w : World} {m : Mdl} {g k : Nat} {v : Value} (h : m.Ok w) (hp : m.Far g) : m.Ok (w.setCell ⟨g, k, none⟩ v) := ⟨h.1, h.2.1.set hp.1, h.2.2.set hp.2⟩

theorem cloneM_nil (w : World) : Calls Tryd.prog 9 #[.slice none 0 0] w fun e w' => e = .returned (.slice none 0 0) ∧ w' = w := by
  have hnil := Lib.run_eql_slice_nil (P := Tryd.prog) w 22 27 none 0 0 0 0 Tryd.underlying22
  go_enter Tryd.func9, Tryd.ntmps9
  go_wp2
  go_ret
  exact ⟨rfl, rfl⟩

set_option maxHeartbeats 4000000 in
set_option maxRecDepth 100000 in
/-- cloneModels. -/
theorem cloneM_some (ad : Addr) (cap : Nat) (ms : List Mdl) (w : World) (hn : ms.length ≤ 1048576) (hV : ViewM w (some ad) ms) (hF : ∀ m ∈ ms, m.2.1.2.2.length ≤ 1048576 ∧ m.2.2.2.2.length ≤ 1048576) :
    Calls Tryd.prog 9 #[.slice (some ad) ms.length cap] w fun e w' => (∃ done p c, e = .returned (.slice p done.length c) ∧ done.map key = ms.map key ∧ ViewM w' p done) ∧ Below w.heap.size w w' := by
  obtain ⟨i0, hi, hz0, hz1, hz2⟩ := info_parts Tryd.info27
  have HV := hide hV
  have HF := hide hF
  clear hV hF
  have hnil := Lib.run_eql_slice_nil (P := Tryd.prog) w 22 27 (some ad) ms.length cap 0 0 Tryd.underlying22
  go_enter Tryd.func9, Tryd.ntmps9
  go_wp2_with (at_make; refine wpList_make_rows _ rfl _ _ 22 rfl 27 i0 _ Tryd.underlying22 hi hz0 _ _ ms.length rfl rfl (by rw [hz2]; omega) (by omega) ?_; rw [hz1])
  go_loopw [4] (fun x wr => ∃ done : List Mdl, done.length ≤ ms.length ∧ x = .int .i64 done.length ∧ Hid (wr.rowIs w.heap.size 27 (ms.length * 3) (mF done)) ∧ Hid (done.map key = (ms.take done.length).map key) ∧ Hid (∀ m ∈ done, m.Ok wr ∧ m.Far w.heap.size) ∧ Hid (Below w.heap.size w wr)) (fun x _ => ms.length - (RowKit.intOf x).toNat)
  case atStart => exact ⟨[], Nat.zero_le _, rfl, hide (mF_start w _), hide rfl, hide (fun _ h => by cases h), hide ((Below.refl _ _).alloc (Nat.le_refl _) _)⟩
  case round =>
    obtain ⟨done, hin, rfl, HR, HKey, HOk, HB⟩ := hrel
    by_cases hlt : done.length < ms.length
    · obtain ⟨b, o, hb, hc⟩ := ((unhide HV).below (unhide HB)) (by omega)
      simp only [Option.some.injEq] at hb
      subst hb
      obtain ⟨c0, c1, c2, ok⟩ := hc done.length hlt
      clear hc
      have ft := unhide HF _ (List.getElem_mem hlt)
      have HK2 := hide (show ms.take (done.length + 1) = ms.take done.length ++ [ms[done.length]] from List.take_succ_eq_append_getElem hlt)
      rcases hm : ms[done.length] with ⟨sc, ⟨np, nc, ns⟩, ⟨vp, vc, vs⟩⟩
      rw [hm] at c0 c1 c2 ok ft HK2
      simp only [Sl.val] at c0 c1 c2
      generalize hdl : done.length = i at *
      have HBd := hide ((unhide HB).drew)
      have OKd := hide (show Mdl.Ok wr.drew (sc, (np, nc, ns), (vp, vc, vs)) from ok)
      have HRd := hide ((unhide HR).drew)
      have HODd := hide (show ∀ m ∈ done, m.Ok wr.drew ∧ m.Far w.heap.size from unhide HOk)
      have HGT := hide (show w.heap.size < wr.drew.heap.size from (unhide HR).lt)
      have FT := hide ft
      have CC : Hid (∀ W, Below w.heap.size w W → W.cell? ⟨b, o + i * 3, none⟩ = some (.string sc) ∧ W.cell? ⟨b, o + i * 3 + 1, none⟩ = some (.slice np ns.length nc) ∧ W.cell? ⟨b, o + i * 3 + 2, none⟩ = some (.slice vp vs.length vc)) := hide fun W h => by
        obtain ⟨b', o', e', hc'⟩ := ((unhide HV).below h) (by omega)
        cases e'
        have := hc' i hlt
        rw [hm] at this
        exact ⟨this.1, this.2.1, this.2.2.1⟩
      clear hm
      have HI := hide (show i * 3 + 2 < ms.length * 3 by omega)
      clear ok ft c0 c1 c2
      go_wp2_with fail
      go_region_held3 (fun w' => w'.cell? ⟨b, o + i * 3, none⟩ = some (.string sc) ∧ w'.cell? ⟨b, o + i * 3 + 1, none⟩ = some (.slice np ns.length nc) ∧ w'.cell? ⟨b, o + i * 3 + 2, none⟩ = some (.slice vp vs.length vc))
        (first | exact unhide CC _ (unhide HBd) | exact unhide CC _ (unhide E1) | exact unhide CC _ (unhide E2) | exact unhide CC _ ((((unhide E2).setCell (Nat.le_refl _) _).setCell (Nat.le_refl _) _).setCell (Nat.le_refl _) _))
        ((first
          | (go_at_call 16; have HG1x := G1; clear HG1x; refine (clone_any vp vc vs _ (unhide FT).2 (unhide OKd).2.2.2.1 (((unhide OKd).below (unhide G1)).2.2.2.2.2)).mono ?_; rintro e x2 ⟨⟨p2, k2, rfl, hp2, q2, V2⟩, g2⟩; have HP2 := hide hp2; have HQ2 := hide (fun a h => Nat.lt_of_lt_of_le (Nat.lt_of_lt_of_le (unhide HGT) (unhide G1).size) (q2 a h)); clear q2; have HV2 := hide V2; have GG := hide g2; have G2 := hide ((unhide G1).trans (g2.mono (unhide G1).size)); have E2 := hide ((unhide HBd).trans ((unhide G2).mono (unhide HBd).size)); have HR2 := hide (rowIs_below (unhide HRd) (unhide G2)); have d0 := (unhide HR2).cell (i := i * 3) (by have := unhide HI; omega); have d1 := (unhide HR2).cell (i := i * 3 + 1) (by have := unhide HI; omega); have d2 := (unhide HR2).cell (i := i * 3 + 2) (by have := unhide HI; omega); have f0 := (unhide HR2).frozen (i * 3); have f1 := (unhide HR2).frozen (i * 3 + 1); have f2 := (unhide HR2).frozen (i * 3 + 2); clear hp2 V2 g2)
          | (go_at_call 16; refine (clone_any np nc ns _ (unhide FT).1 (unhide OKd).2.1.2.1 (unhide OKd).2.1.2.2.2).mono ?_; rintro e x1 ⟨⟨p1, k1, rfl, hp1, q1, V1⟩, g1⟩; have HP1 := hide hp1; have HQ1 := hide (fun a h => Nat.lt_of_lt_of_le (unhide HGT) (q1 a h)); clear q1; have HV1 := hide V1; have G1 := hide g1; have E1 := hide ((unhide HBd).trans (g1.mono (unhide HBd).size)); clear hp1 V1 g1)))
      clear d0 d1 d2 f0 f1 f2
      have MOK : Mdl.Ok x2 (sc, (p1, k1, ns), (p2, k2, vs)) := ⟨(unhide OKd).1, ⟨(unhide OKd).2.1.1, unhide HP1, (unhide OKd).2.1.2.2.1, (unhide HV1).below (unhide GG)⟩, ⟨(unhide OKd).2.2.1, unhide HP2, (unhide OKd).2.2.2.2.1, unhide HV2⟩⟩
      have MFR : Mdl.Far w.heap.size (sc, (p1, k1, ns), (p2, k2, vs)) := ⟨unhide HQ1, unhide HQ2⟩
      have HALL : Hid (∀ m ∈ done ++ [((sc, (p1, k1, ns), (p2, k2, vs)) : Mdl)], m.Ok x2 ∧ m.Far w.heap.size) := hide fun m hm => by
        rcases List.mem_append.1 hm with h | h
        · exact ⟨(unhide HODd m h).1.below (unhide G2), (unhide HODd m h).2⟩
        · rw [List.mem_singleton] at h
          subst h
          exact ⟨MOK, MFR⟩
      have HK3 : Hid ((done ++ [((sc, (p1, k1, ns), (p2, k2, vs)) : Mdl)]).map key = (ms.take (i + 1)).map key) := hide (by
        rw [unhide HK2, List.map_append, List.map_append, unhide HKey]; rfl)
      have HR3 := mF_step (m := (sc, (p1, k1, ns), (p2, k2, vs))) (unhide HR2)
      rw [hdl] at HR3
      simp only [Sl.val] at HR3
      replace HR3 := hide HR3
      have HALL3 : Hid (∀ m ∈ done ++ [((sc, (p1, k1, ns), (p2, k2, vs)) : Mdl)], m.Ok (((x2.setCell ⟨w.heap.size, i * 3, none⟩ (.string sc)).setCell ⟨w.heap.size, i * 3 + 1, none⟩ (.slice p1 ns.length k1)).setCell ⟨w.heap.size, i * 3 + 2, none⟩ (.slice p2 vs.length k2)) ∧ m.Far w.heap.size) := hide fun m hm =>
        ⟨(((unhide HALL m hm).1.set (unhide HALL m hm).2).set (unhide HALL m hm).2).set (unhide HALL m hm).2, (unhide HALL m hm).2⟩
      have E3 := hide ((((unhide E2).setCell (Nat.le_refl _) (p := ⟨w.heap.size, i * 3, none⟩) (.string sc)).setCell (Nat.le_refl _) (p := ⟨w.heap.size, i * 3 + 1, none⟩) (.slice p1 ns.length k1)).setCell (Nat.le_refl _) (p := ⟨w.heap.size, i * 3 + 2, none⟩) (.slice p2 vs.length k2))
      clear MOK MFR HALL HR2 HP1 HP2 HQ1 HQ2 HV1 HV2 G1 G2 GG E1 E2 HODd HRd HBd OKd FT CC HK2 HKey HR HB HOk HI HGT
      generalize hx3 : (((x2.setCell ⟨w.heap.size, i * 3, none⟩ (.string sc)).setCell ⟨w.heap.size, i * 3 + 1, none⟩ (.slice p1 ns.length k1)).setCell ⟨w.heap.size, i * 3 + 2, none⟩ (.slice p2 vs.length k2)) = x3 at *
      clear hx3
      have hl3 : (done ++ [((sc, (p1, k1, ns), (p2, k2, vs)) : Mdl)]).length = i + 1 := by rw [List.length_append, hdl]; rfl
      generalize hd3 : done ++ [((sc, (p1, k1, ns), (p2, k2, vs)) : Mdl)] = d3 at *
      clear hd3
      go_wp2
      go_roundw
      case rel => exact ⟨d3, by omega, by rw [hl3]; go_num, HR3, by rw [hl3]; exact HK3, HALL3, E3⟩
      case measure => simp [RowKit.intOf]; omega
    · have e : done.length = ms.length := by omega
      go_wp2
      go_ret
      refine ⟨⟨done, _, _, by rw [e]; rfl, ?_, mF_view (by rw [e]; exact unhide HR) (fun m hm => (unhide HOk m hm).1)⟩, unhide HB⟩
      have := unhide HKey
      rw [e, List.take_length] at this
      exact this
end Go.Proofs.Qxb6000905aDoor
