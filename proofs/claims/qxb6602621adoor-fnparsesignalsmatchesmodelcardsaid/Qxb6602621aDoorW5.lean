/-
  WALKS of seat b6602621aD: strconv.ParseUint(s, 16, 64), the public one.
-/
import Derived.Test.Qxb6602621aDoorW4
import Derived.Lib.AtoiErrMem
namespace Go.Proofs.Qxb6602621aDoor
open Go.RowKit Go.Lib

set_option maxHeartbeats 1000000 in
set_option maxRecDepth 100000 in
theorem parse_inner_empty (w : World) :
    Calls Tryd.prog 22 #[.string ⟨#[]⟩, .int .i64 16, .int .i64 64] w fun e w' => e = .returned (resI none) ∧ w' = w := by
  go_enter Tryd.func22, Tryd.ntmps22
  go_wp2
  go_ret2
  exact ⟨rfl, rfl⟩

theorem parse_inner_any (t : ByteArray) (hmax : t.size ≤ 9223372036854775806) (w : World) :
    Calls Tryd.prog 22 #[.string t, .int .i64 16, .int .i64 64] w fun e w' => e = .returned (resI (hexU t.data.toList)) ∧ Below w.heap.size w w' := by
  by_cases h : t.size = 0
  · have ht : t = ⟨#[]⟩ := by
      cases t with
      | mk d => congr 1; exact Array.eq_empty_of_size_eq_zero h
    subst ht
    refine (parse_inner_empty w).mono fun e w' ⟨h1, h2⟩ => ⟨h1, ?_⟩
    rw [h2]; exact Below.refl _ _
  · refine (parse_inner t h hmax w).mono fun e w' ⟨h1, h2⟩ => ⟨?_, ?_⟩
    · rw [h1]; unfold hexU
      rw [if_neg (fun e => h (by rw [Lib.size_eq, e]; rfl))]
    · rw [h2]; exact Lib.bytesWorld_below _ _ _

/-- What strconv.ParseUint(s, 16, 64) hands back. -/
def PU : Option (Option Nat) → Ending → Prop
  | some (some u), e => e = .returned (.tuple #[.int .u64 u, .nilIface])
  | some none, e => ∃ N, e = .returned (.tuple #[.int .u64 18446744073709551615, .iface 50 (.pointer (some ⟨N, 0, none⟩))])
  | none, e => ∃ N, e = .returned (.tuple #[.int .u64 0, .iface 50 (.pointer (some ⟨N, 0, none⟩))])

/-- The two sentinels' cells hold interface values. -/
def Sents (w : World) : Prop := (∃ ev, w.cell? ⟨2, 0, none⟩ = some ev ∧ (ev = .nilIface ∨ ∃ te pe, ev = .iface te pe)) ∧ (∃ ev, w.cell? ⟨3, 0, none⟩ = some ev ∧ (ev = .nilIface ∨ ∃ te pe, ev = .iface te pe))
theorem Sents.below {w w' : World} (h : Sents w) (hb : Below w.heap.size w w') : Sents w' := by
  obtain ⟨⟨a, h1, h2⟩, ⟨b, h3, h4⟩⟩ := h
  exact ⟨⟨a, (hb.cell (p := ⟨2, 0, none⟩) (Lib.lt_of_cell h1)).trans h1, h2⟩, ⟨b, (hb.cell (p := ⟨3, 0, none⟩) (Lib.lt_of_cell h3)).trans h3, h4⟩⟩

theorem toErr_s (fn s : ByteArray) (w : World) (hlim : s.size ≤ 281474976710656) (hS : Sents w) :
    Calls Tryd.prog 23 #[.string fn, .string s, .int .i64 16, .int .i64 64, .iface 47 (.int .i64 2)] w fun e w' => (∃ N, e = .returned (.iface 50 (.pointer (some ⟨N, 0, none⟩)))) ∧ Below w.heap.size w w' := by
  obtain ⟨⟨ev, h1, h2⟩, _⟩ := hS
  exact (AnyPu.strconv_toError_syntax Tryd.laysPu17 fn s 16 64 ev w hlim h1 h2).mono fun e w' ⟨N, a, _, _, b⟩ => ⟨⟨N, a⟩, b⟩
theorem toErr_r (fn s : ByteArray) (w : World) (hlim : s.size ≤ 281474976710656) (hS : Sents w) :
    Calls Tryd.prog 23 #[.string fn, .string s, .int .i64 16, .int .i64 64, .iface 47 (.int .i64 1)] w fun e w' => (∃ N, e = .returned (.iface 50 (.pointer (some ⟨N, 0, none⟩)))) ∧ Below w.heap.size w w' := by
  obtain ⟨_, ⟨ev, h1, h2⟩⟩ := hS
  exact (AnyPu.strconv_toError_range Tryd.laysPu17 fn s 16 64 ev w hlim h1 h2).mono fun e w' ⟨N, a, _, _, b⟩ => ⟨⟨N, a⟩, b⟩

set_option maxHeartbeats 1000000 in
set_option maxRecDepth 100000 in
theorem parseU_any (s : ByteArray) (hlim : s.size ≤ 281474976710656) (w : World) (hS : Sents w) :
    Calls Tryd.prog 18 #[.string s, .int .i64 16, .int .i64 64] w fun e w' => PU (hexU s.data.toList) e ∧ Below w.heap.size w w' := by
  have hI := parse_inner_any s (by omega) w
  cases hx : hexU s.data.toList with
  | none =>
    rw [hx] at hI
    have hI : Calls Tryd.prog 22 #[.string s, .int .i64 16, .int .i64 64] w fun e w' => e = .returned (.tuple #[.int .u64 0, .iface 47 (.int .i64 2)]) ∧ Below w.heap.size w w' := hI
    clear hx
    go_enter Tryd.func18, Tryd.ntmps18
    go_wp2_with (go_at_call 22; refine hI.mono ?_)
    rintro e W1 ⟨rfl, hb1⟩
    have hS1 := hS.below hb1
    have HS1 := hide hS1
    clear hS hS1
    go_wp2_with (go_at_call 23; refine (toErr_s _ s _ hlim ?_).mono ?_)
    · exact unhide HS1
    rintro e W2 ⟨⟨N, rfl⟩, h3⟩
    go_wp2
    go_ret2
    exact ⟨⟨N, rfl⟩, hb1.trans (h3.mono hb1.size)⟩
  | some o =>
    cases o with
    | none =>
      rw [hx] at hI
      have hI : Calls Tryd.prog 22 #[.string s, .int .i64 16, .int .i64 64] w fun e w' => e = .returned (.tuple #[.int .u64 18446744073709551615, .iface 47 (.int .i64 1)]) ∧ Below w.heap.size w w' := hI
      clear hx
      go_enter Tryd.func18, Tryd.ntmps18
      go_wp2_with (go_at_call 22; refine hI.mono ?_)
      rintro e W1 ⟨rfl, hb1⟩
      have hS1 := hS.below hb1
      have HS1 := hide hS1
      clear hS hS1
      go_wp2_with (go_at_call 23; refine (toErr_r _ s _ hlim ?_).mono ?_)
      · exact unhide HS1
      rintro e W2 ⟨⟨N, rfl⟩, h3⟩
      go_wp2
      go_ret2
      exact ⟨⟨N, rfl⟩, hb1.trans (h3.mono hb1.size)⟩
    | some u =>
      rw [hx] at hI
      have hI : Calls Tryd.prog 22 #[.string s, .int .i64 16, .int .i64 64] w fun e w' => e = .returned (.tuple #[.int .u64 u, .nilIface]) ∧ Below w.heap.size w w' := hI
      clear hx hS
      go_enter Tryd.func18, Tryd.ntmps18
      go_wp2_with (go_at_call 22; refine hI.mono ?_)
      rintro e W1 ⟨rfl, hb1⟩
      go_wp2
      go_ret2
      exact ⟨rfl, hb1⟩
end Go.Proofs.Qxb6602621aDoor
