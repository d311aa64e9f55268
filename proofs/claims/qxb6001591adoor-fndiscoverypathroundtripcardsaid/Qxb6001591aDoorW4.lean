/-
  THE LAW FnDiscoveryPathRoundTrip, walked. Seat b6001591aD.
-/
import Derived.Test.Qxb6001591aDoorW3
set_option linter.unusedVariables false
namespace Go.Proofs.Qxb6001591aDoor
open Go.RowKit Go.Lib

theorem bstr_self (g : ByteArray) : bstr g.data.toList = g := bytes_ext rfl
theorem slash_app (l : List UInt8) : (⟨#[47]⟩ ++ bstr l : ByteArray) = bstr (47 :: l) := bytes_ext (by rw [app_list]; rfl)
theorem len_le {g : ByteArray} (h : g.size ≤ 1048576) : g.data.toList.length ≤ 1048576 := by simpa using h
/-- What zzRenderDiscovery gave is read back. -/
theorem read_rend (doc : Int) (core : Bool) (g v s : ByteArray) (m : Int) (hr : Rend doc core g v s) (hg : g.size ≤ 1048576) (hv : v.size ≤ 1048576) (w : World) (hm : w.cell? ⟨0, 0, none⟩ = some (.int .i64 m)) :
    Calls Tryd.prog 8 #[.string (⟨#[47]⟩ ++ s)] w fun e w' => e = .returned (.tuple #[.int .i64 doc, .bool core, .string g, .string v, .bool true]) ∧ Below w.heap.size w w' := by
  rcases hr with ⟨rfl, rfl, rfl, rfl, rfl⟩ | ⟨rfl, rfl, rfl, rfl, rfl⟩ | ⟨rfl, rfl, rfl, rfl, rfl⟩ | ⟨rfl, rfl, hs, rfl, rfl⟩ | ⟨rfl, rfl, rfl, hs, rfl⟩ | ⟨rfl, rfl, hs, ht, rfl⟩ <;> rw [slash_app]
  · exact read8 _ _ _ _ _ w (read_version m w hm)
  · exact read8 _ _ _ _ _ w (read_api m w hm)
  · exact read8 _ _ _ _ _ w (read_apis m w hm)
  · have := read_apis_g g.data.toList hs (len_le hg) m w hm
    rw [bstr_self] at this
    exact read8 _ _ _ _ _ w this
  · have := read_api_v v.data.toList hs (len_le hv) m w hm
    rw [bstr_self] at this
    exact read8 _ _ _ _ _ w this
  · have := read_apis_gv g.data.toList hs (len_le hg) v.data.toList ht (len_le hv) m w hm
    rw [bstr_self, bstr_self] at this
    exact read8 _ _ _ _ _ w this

theorem rend_size {doc : Int} {core : Bool} {g v s : ByteArray} (hr : Rend doc core g v s) (hg : g.size ≤ 1048576) (hv : v.size ≤ 1048576) : s.size ≤ 4194304 := by
  have h1 := len_le hg
  have h2 := len_le hv
  rcases hr with ⟨_, _, _, _, rfl⟩ | ⟨_, _, _, _, rfl⟩ | ⟨_, _, _, _, rfl⟩ | ⟨_, _, _, _, rfl⟩ | ⟨_, _, _, _, rfl⟩ | ⟨_, _, _, _, rfl⟩ <;> rw [bstr_size] <;> simp [jn, sVersion, sApi, sApis] <;> simp at h1 h2 <;> omega

set_option maxHeartbeats 2000000 in
theorem law_any (doc : Int) (core : Bool) (g v : ByteArray) (m : Int) (w : World) (hg : g.size ≤ maxLen) (hv : v.size ≤ maxLen) (hm : w.cell? ⟨0, 0, none⟩ = some (.int .i64 m)) :
    Calls Tryd.prog 4 #[.int .i64 doc, .bool core, .string g, .string v] w fun e w' => e = .returned (.bool true) ∧ Below w.heap.size w w' := by
  have HC11 := hide (bounds_any doc core g v w hg hv)
  have HM := hide hm
  clear hm hg hv
  go_enter Tryd.func4, Tryd.ntmps4
  go_wp2_with fail
  refine (unhide HC11).mono ?_
  rintro e w1 ⟨⟨b, rfl, hb⟩, hw⟩
  have hw2 := hw.symm; subst hw2
  clear hw HC11
  cases b with
  | false =>
    go_wp2
    go_ret
    exact ⟨rfl, Below.refl _ _⟩
  | true =>
    have hsum := hb rfl
    clear hb
    have hsi : (g.size : Int) + (v.size : Int) ≤ 1048576 := by omega
    have h0g : (0 : Int) ≤ (g.size : Int) := by omega
    have h0v : (0 : Int) ≤ (v.size : Int) := by omega
    have HC9 := hide (render_any doc core g v w (by omega) (by omega))
    have HZ := hide hsum
    go_wp2_with fail
    refine (unhide HC9).mono ?_
    rintro e w1 ⟨⟨s, b, rfl, hb⟩, hw⟩
    have hw2 := hw.symm; subst hw2
    clear hw HC9
    cases b with
    | false =>
      go_wp2
      go_ret
      exact ⟨rfl, Below.refl _ _⟩
    | true =>
      have hss : s.size ≤ 4194304 := rend_size (hb rfl) (by omega) (by omega)
      have HC8 := hide (read_rend doc core g v s m (hb rfl) (by omega) (by omega) w (unhide HM))
      clear hb
      go_wp2_with fail
      refine (unhide HC8).mono ?_
      rintro e w1 ⟨rfl, hb⟩
      have HB := hide hb
      clear hb HC8
      go_wp2
      go_ret
      exact ⟨rfl, unhide HB⟩
end Go.Proofs.Qxb6001591aDoor
