/-
  WALKS of seat b6602621aD: zzPsSpaceAt.
-/
import Derived.Test.Qxb6602621aDoorProg
import Derived.Test.Qxb6602621aDoorPlain
import Derived.WalkKit
import Derived.Deep.Light
import Derived.WalkSpells
import Derived.WalkLawsBesides
set_option linter.unusedVariables false
namespace Go.Proofs.Qxb6602621aDoor
open Go.RowKit

set_option maxHeartbeats 400000 in
theorem sp_a (b off n cap i e : Nat) (c c1 c2 : Int) (w : World) (hie : i < e) (hen : e ≤ n) (hn : n ≤ 1099511627776)
    (h0 : 0 ≤ c) (h1 : c < 256) (h10 : 0 ≤ c1) (h11 : c1 < 256) (h20 : 0 ≤ c2) (h21 : c2 < 256)
    (hc : w.cell? ⟨b, off + i, none⟩ = some (.int .u8 c)) (qc : c = 32) :
    Calls Tryd.prog 16 #[.slice (some ⟨b, off, none⟩) n cap, .int .i64 i, .int .i64 e] w fun r w' => r = .returned (.int .i64 1) ∧ w' = w := by
  subst qc
  go_enter Tryd.func16, Tryd.ntmps16
  go_wp2
  all_goals go_ret
  all_goals first | exact ⟨rfl, rfl⟩ | (exfalso; go_light; simp_all; done) | (exfalso; go_light; simp_all; omega)
set_option maxHeartbeats 400000 in
theorem sp_b (b off n cap i e : Nat) (c c1 c2 : Int) (w : World) (hie : i < e) (hen : e ≤ n) (hn : n ≤ 1099511627776)
    (h0 : 0 ≤ c) (h1 : c < 256) (h10 : 0 ≤ c1) (h11 : c1 < 256) (h20 : 0 ≤ c2) (h21 : c2 < 256)
    (hc : w.cell? ⟨b, off + i, none⟩ = some (.int .u8 c)) (r1 : 9 ≤ c) (r2 : c ≤ 13) :
    Calls Tryd.prog 16 #[.slice (some ⟨b, off, none⟩) n cap, .int .i64 i, .int .i64 e] w fun r w' => r = .returned (.int .i64 1) ∧ w' = w := by
  go_enter Tryd.func16, Tryd.ntmps16
  go_wp2
  all_goals go_ret
  all_goals first | exact ⟨rfl, rfl⟩ | (exfalso; go_light; simp_all; done) | (exfalso; go_light; simp_all; omega)
set_option maxHeartbeats 400000 in
theorem sp_c (b off n cap i e : Nat) (c c1 c2 : Int) (w : World) (hie : i < e) (hen : e ≤ n) (hn : n ≤ 1099511627776)
    (h0 : 0 ≤ c) (h1 : c < 256) (h10 : 0 ≤ c1) (h11 : c1 < 256) (h20 : 0 ≤ c2) (h21 : c2 < 256)
    (hc : w.cell? ⟨b, off + i, none⟩ = some (.int .u8 c)) (hb1 : i + 1 < e) (k1 : w.cell? ⟨b, off + (i + 1), none⟩ = some (.int .u8 c1)) (qc : c = 194) (qc1 : c1 = 133) :
    Calls Tryd.prog 16 #[.slice (some ⟨b, off, none⟩) n cap, .int .i64 i, .int .i64 e] w fun r w' => r = .returned (.int .i64 2) ∧ w' = w := by
  subst qc
  subst qc1
  go_enter Tryd.func16, Tryd.ntmps16
  go_wp2
  all_goals go_ret
  all_goals first | exact ⟨rfl, rfl⟩ | (exfalso; go_light; simp_all; done) | (exfalso; go_light; simp_all; omega)
set_option maxHeartbeats 400000 in
theorem sp_d (b off n cap i e : Nat) (c c1 c2 : Int) (w : World) (hie : i < e) (hen : e ≤ n) (hn : n ≤ 1099511627776)
    (h0 : 0 ≤ c) (h1 : c < 256) (h10 : 0 ≤ c1) (h11 : c1 < 256) (h20 : 0 ≤ c2) (h21 : c2 < 256)
    (hc : w.cell? ⟨b, off + i, none⟩ = some (.int .u8 c)) (hb1 : i + 1 < e) (k1 : w.cell? ⟨b, off + (i + 1), none⟩ = some (.int .u8 c1)) (qc : c = 194) (qc1 : c1 = 160) :
    Calls Tryd.prog 16 #[.slice (some ⟨b, off, none⟩) n cap, .int .i64 i, .int .i64 e] w fun r w' => r = .returned (.int .i64 2) ∧ w' = w := by
  subst qc
  subst qc1
  go_enter Tryd.func16, Tryd.ntmps16
  go_wp2
  all_goals go_ret
  all_goals first | exact ⟨rfl, rfl⟩ | (exfalso; go_light; simp_all; done) | (exfalso; go_light; simp_all; omega)
set_option maxHeartbeats 400000 in
theorem sp_e (b off n cap i e : Nat) (c c1 c2 : Int) (w : World) (hie : i < e) (hen : e ≤ n) (hn : n ≤ 1099511627776)
    (h0 : 0 ≤ c) (h1 : c < 256) (h10 : 0 ≤ c1) (h11 : c1 < 256) (h20 : 0 ≤ c2) (h21 : c2 < 256)
    (hc : w.cell? ⟨b, off + i, none⟩ = some (.int .u8 c)) (hb1 : i + 1 < e) (k1 : w.cell? ⟨b, off + (i + 1), none⟩ = some (.int .u8 c1)) (hb2 : i + 2 < e) (k2 : w.cell? ⟨b, off + (i + 2), none⟩ = some (.int .u8 c2)) (qc : c = 194) (n1 : (c1 == 133) = false) (n2 : (c1 == 160) = false) :
    Calls Tryd.prog 16 #[.slice (some ⟨b, off, none⟩) n cap, .int .i64 i, .int .i64 e] w fun r w' => r = .returned (.int .i64 0) ∧ w' = w := by
  subst qc
  go_enter Tryd.func16, Tryd.ntmps16
  go_wp2
  all_goals go_ret
  all_goals first | exact ⟨rfl, rfl⟩ | (exfalso; go_light; simp_all; done) | (exfalso; go_light; simp_all; omega)
set_option maxHeartbeats 400000 in
theorem sp_f (b off n cap i e : Nat) (c c1 c2 : Int) (w : World) (hie : i < e) (hen : e ≤ n) (hn : n ≤ 1099511627776)
    (h0 : 0 ≤ c) (h1 : c < 256) (h10 : 0 ≤ c1) (h11 : c1 < 256) (h20 : 0 ≤ c2) (h21 : c2 < 256)
    (hc : w.cell? ⟨b, off + i, none⟩ = some (.int .u8 c)) (hb1 : i + 1 < e) (k1 : w.cell? ⟨b, off + (i + 1), none⟩ = some (.int .u8 c1)) (hb2 : ¬ i + 2 < e) (qc : c = 194) (n1 : (c1 == 133) = false) (n2 : (c1 == 160) = false) :
    Calls Tryd.prog 16 #[.slice (some ⟨b, off, none⟩) n cap, .int .i64 i, .int .i64 e] w fun r w' => r = .returned (.int .i64 0) ∧ w' = w := by
  subst qc
  go_enter Tryd.func16, Tryd.ntmps16
  go_wp2
  all_goals go_ret
  all_goals first | exact ⟨rfl, rfl⟩ | (exfalso; go_light; simp_all; done) | (exfalso; go_light; simp_all; omega)
set_option maxHeartbeats 400000 in
theorem sp_g (b off n cap i e : Nat) (c c1 c2 : Int) (w : World) (hie : i < e) (hen : e ≤ n) (hn : n ≤ 1099511627776)
    (h0 : 0 ≤ c) (h1 : c < 256) (h10 : 0 ≤ c1) (h11 : c1 < 256) (h20 : 0 ≤ c2) (h21 : c2 < 256)
    (hc : w.cell? ⟨b, off + i, none⟩ = some (.int .u8 c)) (hb1 : ¬ i + 1 < e) (hb2 : ¬ i + 2 < e) (qc : c = 194) :
    Calls Tryd.prog 16 #[.slice (some ⟨b, off, none⟩) n cap, .int .i64 i, .int .i64 e] w fun r w' => r = .returned (.int .i64 0) ∧ w' = w := by
  subst qc
  go_enter Tryd.func16, Tryd.ntmps16
  go_wp2
  all_goals go_ret
  all_goals first | exact ⟨rfl, rfl⟩ | (exfalso; go_light; simp_all; done) | (exfalso; go_light; simp_all; omega)
set_option maxHeartbeats 400000 in
theorem sp_h1 (b off n cap i e : Nat) (c c1 c2 : Int) (w : World) (hie : i < e) (hen : e ≤ n) (hn : n ≤ 1099511627776)
    (h0 : 0 ≤ c) (h1 : c < 256) (h10 : 0 ≤ c1) (h11 : c1 < 256) (h20 : 0 ≤ c2) (h21 : c2 < 256)
    (hc : w.cell? ⟨b, off + i, none⟩ = some (.int .u8 c)) (hb2 : ¬ i + 2 < e) (n0 : (c == 194) = false) (lo : c < 9) :
    Calls Tryd.prog 16 #[.slice (some ⟨b, off, none⟩) n cap, .int .i64 i, .int .i64 e] w fun r w' => r = .returned (.int .i64 0) ∧ w' = w := by
  go_enter Tryd.func16, Tryd.ntmps16
  go_wp2
  all_goals go_ret
  all_goals first | exact ⟨rfl, rfl⟩ | (exfalso; go_light; simp_all; done) | (exfalso; go_light; simp_all; omega)
set_option maxHeartbeats 400000 in
theorem sp_h2 (b off n cap i e : Nat) (c c1 c2 : Int) (w : World) (hie : i < e) (hen : e ≤ n) (hn : n ≤ 1099511627776)
    (h0 : 0 ≤ c) (h1 : c < 256) (h10 : 0 ≤ c1) (h11 : c1 < 256) (h20 : 0 ≤ c2) (h21 : c2 < 256)
    (hc : w.cell? ⟨b, off + i, none⟩ = some (.int .u8 c)) (hb2 : ¬ i + 2 < e) (n0 : (c == 194) = false) (n3 : (c == 32) = false) (hi : 13 < c) (hi9 : 9 ≤ c) :
    Calls Tryd.prog 16 #[.slice (some ⟨b, off, none⟩) n cap, .int .i64 i, .int .i64 e] w fun r w' => r = .returned (.int .i64 0) ∧ w' = w := by
  go_enter Tryd.func16, Tryd.ntmps16
  go_wp2
  all_goals go_ret
  all_goals first | exact ⟨rfl, rfl⟩ | (exfalso; go_light; simp_all; done) | (exfalso; go_light; simp_all; omega)
set_option maxHeartbeats 400000 in
theorem sp_i (b off n cap i e : Nat) (c c1 c2 : Int) (w : World) (hie : i < e) (hen : e ≤ n) (hn : n ≤ 1099511627776)
    (h0 : 0 ≤ c) (h1 : c < 256) (h10 : 0 ≤ c1) (h11 : c1 < 256) (h20 : 0 ≤ c2) (h21 : c2 < 256)
    (hc : w.cell? ⟨b, off + i, none⟩ = some (.int .u8 c)) (hb1 : i + 1 < e) (hb2 : i + 2 < e) (k1 : w.cell? ⟨b, off + (i + 1), none⟩ = some (.int .u8 c1)) (k2 : w.cell? ⟨b, off + (i + 2), none⟩ = some (.int .u8 c2)) (qc : c = 225) (qc1 : c1 = 154) (qc2 : c2 = 128) :
    Calls Tryd.prog 16 #[.slice (some ⟨b, off, none⟩) n cap, .int .i64 i, .int .i64 e] w fun r w' => r = .returned (.int .i64 3) ∧ w' = w := by
  subst qc
  subst qc1
  subst qc2
  go_enter Tryd.func16, Tryd.ntmps16
  go_wp2
  all_goals go_ret
  all_goals first | exact ⟨rfl, rfl⟩ | (exfalso; go_light; simp_all; done) | (exfalso; go_light; simp_all; omega)
set_option maxHeartbeats 400000 in
theorem sp_j (b off n cap i e : Nat) (c c1 c2 : Int) (w : World) (hie : i < e) (hen : e ≤ n) (hn : n ≤ 1099511627776)
    (h0 : 0 ≤ c) (h1 : c < 256) (h10 : 0 ≤ c1) (h11 : c1 < 256) (h20 : 0 ≤ c2) (h21 : c2 < 256)
    (hc : w.cell? ⟨b, off + i, none⟩ = some (.int .u8 c)) (hb1 : i + 1 < e) (hb2 : i + 2 < e) (k1 : w.cell? ⟨b, off + (i + 1), none⟩ = some (.int .u8 c1)) (k2 : w.cell? ⟨b, off + (i + 2), none⟩ = some (.int .u8 c2)) (qc : c = 225) (qc1 : c1 = 154) (n2 : (c2 == 128) = false) :
    Calls Tryd.prog 16 #[.slice (some ⟨b, off, none⟩) n cap, .int .i64 i, .int .i64 e] w fun r w' => r = .returned (.int .i64 0) ∧ w' = w := by
  subst qc
  subst qc1
  go_enter Tryd.func16, Tryd.ntmps16
  go_wp2
  all_goals go_ret
  all_goals first | exact ⟨rfl, rfl⟩ | (exfalso; go_light; simp_all; done) | (exfalso; go_light; simp_all; omega)
set_option maxHeartbeats 400000 in
theorem sp_k (b off n cap i e : Nat) (c c1 c2 : Int) (w : World) (hie : i < e) (hen : e ≤ n) (hn : n ≤ 1099511627776)
    (h0 : 0 ≤ c) (h1 : c < 256) (h10 : 0 ≤ c1) (h11 : c1 < 256) (h20 : 0 ≤ c2) (h21 : c2 < 256)
    (hc : w.cell? ⟨b, off + i, none⟩ = some (.int .u8 c)) (hb1 : i + 1 < e) (hb2 : i + 2 < e) (k1 : w.cell? ⟨b, off + (i + 1), none⟩ = some (.int .u8 c1)) (k2 : w.cell? ⟨b, off + (i + 2), none⟩ = some (.int .u8 c2)) (qc : c = 225) (n1 : (c1 == 154) = false) :
    Calls Tryd.prog 16 #[.slice (some ⟨b, off, none⟩) n cap, .int .i64 i, .int .i64 e] w fun r w' => r = .returned (.int .i64 0) ∧ w' = w := by
  subst qc
  go_enter Tryd.func16, Tryd.ntmps16
  go_wp2
  all_goals go_ret
  all_goals first | exact ⟨rfl, rfl⟩ | (exfalso; go_light; simp_all; done) | (exfalso; go_light; simp_all; omega)
set_option maxHeartbeats 400000 in
theorem sp_l (b off n cap i e : Nat) (c c1 c2 : Int) (w : World) (hie : i < e) (hen : e ≤ n) (hn : n ≤ 1099511627776)
    (h0 : 0 ≤ c) (h1 : c < 256) (h10 : 0 ≤ c1) (h11 : c1 < 256) (h20 : 0 ≤ c2) (h21 : c2 < 256)
    (hc : w.cell? ⟨b, off + i, none⟩ = some (.int .u8 c)) (hb1 : i + 1 < e) (hb2 : i + 2 < e) (k1 : w.cell? ⟨b, off + (i + 1), none⟩ = some (.int .u8 c1)) (k2 : w.cell? ⟨b, off + (i + 2), none⟩ = some (.int .u8 c2)) (qc : c = 226) (qc1 : c1 = 128) (r1 : 128 ≤ c2) (r2 : c2 ≤ 138) :
    Calls Tryd.prog 16 #[.slice (some ⟨b, off, none⟩) n cap, .int .i64 i, .int .i64 e] w fun r w' => r = .returned (.int .i64 3) ∧ w' = w := by
  subst qc
  subst qc1
  go_enter Tryd.func16, Tryd.ntmps16
  go_wp2
  all_goals go_ret
  all_goals first | exact ⟨rfl, rfl⟩ | (exfalso; go_light; simp_all; done) | (exfalso; go_light; simp_all; omega)
set_option maxHeartbeats 400000 in
theorem sp_m1 (b off n cap i e : Nat) (c c1 c2 : Int) (w : World) (hie : i < e) (hen : e ≤ n) (hn : n ≤ 1099511627776)
    (h0 : 0 ≤ c) (h1 : c < 256) (h10 : 0 ≤ c1) (h11 : c1 < 256) (h20 : 0 ≤ c2) (h21 : c2 < 256)
    (hc : w.cell? ⟨b, off + i, none⟩ = some (.int .u8 c)) (hb1 : i + 1 < e) (hb2 : i + 2 < e) (k1 : w.cell? ⟨b, off + (i + 1), none⟩ = some (.int .u8 c1)) (k2 : w.cell? ⟨b, off + (i + 2), none⟩ = some (.int .u8 c2)) (qc : c = 226) (qc1 : c1 = 128) (qc2 : c2 = 168) :
    Calls Tryd.prog 16 #[.slice (some ⟨b, off, none⟩) n cap, .int .i64 i, .int .i64 e] w fun r w' => r = .returned (.int .i64 3) ∧ w' = w := by
  subst qc
  subst qc1
  subst qc2
  go_enter Tryd.func16, Tryd.ntmps16
  go_wp2
  all_goals go_ret
  all_goals first | exact ⟨rfl, rfl⟩ | (exfalso; go_light; simp_all; done) | (exfalso; go_light; simp_all; omega)
set_option maxHeartbeats 400000 in
theorem sp_m2 (b off n cap i e : Nat) (c c1 c2 : Int) (w : World) (hie : i < e) (hen : e ≤ n) (hn : n ≤ 1099511627776)
    (h0 : 0 ≤ c) (h1 : c < 256) (h10 : 0 ≤ c1) (h11 : c1 < 256) (h20 : 0 ≤ c2) (h21 : c2 < 256)
    (hc : w.cell? ⟨b, off + i, none⟩ = some (.int .u8 c)) (hb1 : i + 1 < e) (hb2 : i + 2 < e) (k1 : w.cell? ⟨b, off + (i + 1), none⟩ = some (.int .u8 c1)) (k2 : w.cell? ⟨b, off + (i + 2), none⟩ = some (.int .u8 c2)) (qc : c = 226) (qc1 : c1 = 128) (qc2 : c2 = 169) :
    Calls Tryd.prog 16 #[.slice (some ⟨b, off, none⟩) n cap, .int .i64 i, .int .i64 e] w fun r w' => r = .returned (.int .i64 3) ∧ w' = w := by
  subst qc
  subst qc1
  subst qc2
  go_enter Tryd.func16, Tryd.ntmps16
  go_wp2
  all_goals go_ret
  all_goals first | exact ⟨rfl, rfl⟩ | (exfalso; go_light; simp_all; done) | (exfalso; go_light; simp_all; omega)
set_option maxHeartbeats 400000 in
theorem sp_m3 (b off n cap i e : Nat) (c c1 c2 : Int) (w : World) (hie : i < e) (hen : e ≤ n) (hn : n ≤ 1099511627776)
    (h0 : 0 ≤ c) (h1 : c < 256) (h10 : 0 ≤ c1) (h11 : c1 < 256) (h20 : 0 ≤ c2) (h21 : c2 < 256)
    (hc : w.cell? ⟨b, off + i, none⟩ = some (.int .u8 c)) (hb1 : i + 1 < e) (hb2 : i + 2 < e) (k1 : w.cell? ⟨b, off + (i + 1), none⟩ = some (.int .u8 c1)) (k2 : w.cell? ⟨b, off + (i + 2), none⟩ = some (.int .u8 c2)) (qc : c = 226) (qc1 : c1 = 128) (qc2 : c2 = 175) :
    Calls Tryd.prog 16 #[.slice (some ⟨b, off, none⟩) n cap, .int .i64 i, .int .i64 e] w fun r w' => r = .returned (.int .i64 3) ∧ w' = w := by
  subst qc
  subst qc1
  subst qc2
  go_enter Tryd.func16, Tryd.ntmps16
  go_wp2
  all_goals go_ret
  all_goals first | exact ⟨rfl, rfl⟩ | (exfalso; go_light; simp_all; done) | (exfalso; go_light; simp_all; omega)
set_option maxHeartbeats 400000 in
theorem sp_n1 (b off n cap i e : Nat) (c c1 c2 : Int) (w : World) (hie : i < e) (hen : e ≤ n) (hn : n ≤ 1099511627776)
    (h0 : 0 ≤ c) (h1 : c < 256) (h10 : 0 ≤ c1) (h11 : c1 < 256) (h20 : 0 ≤ c2) (h21 : c2 < 256)
    (hc : w.cell? ⟨b, off + i, none⟩ = some (.int .u8 c)) (hb1 : i + 1 < e) (hb2 : i + 2 < e) (k1 : w.cell? ⟨b, off + (i + 1), none⟩ = some (.int .u8 c1)) (k2 : w.cell? ⟨b, off + (i + 2), none⟩ = some (.int .u8 c2)) (qc : c = 226) (qc1 : c1 = 128) (r1 : c2 < 128) :
    Calls Tryd.prog 16 #[.slice (some ⟨b, off, none⟩) n cap, .int .i64 i, .int .i64 e] w fun r w' => r = .returned (.int .i64 0) ∧ w' = w := by
  subst qc
  subst qc1
  go_enter Tryd.func16, Tryd.ntmps16
  go_wp2
  all_goals go_ret
  all_goals first | exact ⟨rfl, rfl⟩ | (exfalso; go_light; simp_all; done) | (exfalso; go_light; simp_all; omega)
set_option maxHeartbeats 400000 in
theorem sp_n2 (b off n cap i e : Nat) (c c1 c2 : Int) (w : World) (hie : i < e) (hen : e ≤ n) (hn : n ≤ 1099511627776)
    (h0 : 0 ≤ c) (h1 : c < 256) (h10 : 0 ≤ c1) (h11 : c1 < 256) (h20 : 0 ≤ c2) (h21 : c2 < 256)
    (hc : w.cell? ⟨b, off + i, none⟩ = some (.int .u8 c)) (hb1 : i + 1 < e) (hb2 : i + 2 < e) (k1 : w.cell? ⟨b, off + (i + 1), none⟩ = some (.int .u8 c1)) (k2 : w.cell? ⟨b, off + (i + 2), none⟩ = some (.int .u8 c2)) (qc : c = 226) (qc1 : c1 = 128) (r1 : 138 < c2) (n1 : (c2 == 168) = false) (n2 : (c2 == 169) = false) (n3 : (c2 == 175) = false) :
    Calls Tryd.prog 16 #[.slice (some ⟨b, off, none⟩) n cap, .int .i64 i, .int .i64 e] w fun r w' => r = .returned (.int .i64 0) ∧ w' = w := by
  subst qc
  subst qc1
  go_enter Tryd.func16, Tryd.ntmps16
  go_wp2
  all_goals go_ret
  all_goals first | exact ⟨rfl, rfl⟩ | (exfalso; go_light; simp_all; done) | (exfalso; go_light; simp_all; omega)
set_option maxHeartbeats 400000 in
theorem sp_o (b off n cap i e : Nat) (c c1 c2 : Int) (w : World) (hie : i < e) (hen : e ≤ n) (hn : n ≤ 1099511627776)
    (h0 : 0 ≤ c) (h1 : c < 256) (h10 : 0 ≤ c1) (h11 : c1 < 256) (h20 : 0 ≤ c2) (h21 : c2 < 256)
    (hc : w.cell? ⟨b, off + i, none⟩ = some (.int .u8 c)) (hb1 : i + 1 < e) (hb2 : i + 2 < e) (k1 : w.cell? ⟨b, off + (i + 1), none⟩ = some (.int .u8 c1)) (k2 : w.cell? ⟨b, off + (i + 2), none⟩ = some (.int .u8 c2)) (qc : c = 226) (qc1 : c1 = 129) (qc2 : c2 = 159) :
    Calls Tryd.prog 16 #[.slice (some ⟨b, off, none⟩) n cap, .int .i64 i, .int .i64 e] w fun r w' => r = .returned (.int .i64 3) ∧ w' = w := by
  subst qc
  subst qc1
  subst qc2
  go_enter Tryd.func16, Tryd.ntmps16
  go_wp2
  all_goals go_ret
  all_goals first | exact ⟨rfl, rfl⟩ | (exfalso; go_light; simp_all; done) | (exfalso; go_light; simp_all; omega)
set_option maxHeartbeats 400000 in
theorem sp_p (b off n cap i e : Nat) (c c1 c2 : Int) (w : World) (hie : i < e) (hen : e ≤ n) (hn : n ≤ 1099511627776)
    (h0 : 0 ≤ c) (h1 : c < 256) (h10 : 0 ≤ c1) (h11 : c1 < 256) (h20 : 0 ≤ c2) (h21 : c2 < 256)
    (hc : w.cell? ⟨b, off + i, none⟩ = some (.int .u8 c)) (hb1 : i + 1 < e) (hb2 : i + 2 < e) (k1 : w.cell? ⟨b, off + (i + 1), none⟩ = some (.int .u8 c1)) (k2 : w.cell? ⟨b, off + (i + 2), none⟩ = some (.int .u8 c2)) (qc : c = 226) (qc1 : c1 = 129) (n2 : (c2 == 159) = false) :
    Calls Tryd.prog 16 #[.slice (some ⟨b, off, none⟩) n cap, .int .i64 i, .int .i64 e] w fun r w' => r = .returned (.int .i64 0) ∧ w' = w := by
  subst qc
  subst qc1
  go_enter Tryd.func16, Tryd.ntmps16
  go_wp2
  all_goals go_ret
  all_goals first | exact ⟨rfl, rfl⟩ | (exfalso; go_light; simp_all; done) | (exfalso; go_light; simp_all; omega)
set_option maxHeartbeats 400000 in
theorem sp_q (b off n cap i e : Nat) (c c1 c2 : Int) (w : World) (hie : i < e) (hen : e ≤ n) (hn : n ≤ 1099511627776)
    (h0 : 0 ≤ c) (h1 : c < 256) (h10 : 0 ≤ c1) (h11 : c1 < 256) (h20 : 0 ≤ c2) (h21 : c2 < 256)
    (hc : w.cell? ⟨b, off + i, none⟩ = some (.int .u8 c)) (hb1 : i + 1 < e) (hb2 : i + 2 < e) (k1 : w.cell? ⟨b, off + (i + 1), none⟩ = some (.int .u8 c1)) (k2 : w.cell? ⟨b, off + (i + 2), none⟩ = some (.int .u8 c2)) (qc : c = 226) (n1 : (c1 == 128) = false) (n2 : (c1 == 129) = false) :
    Calls Tryd.prog 16 #[.slice (some ⟨b, off, none⟩) n cap, .int .i64 i, .int .i64 e] w fun r w' => r = .returned (.int .i64 0) ∧ w' = w := by
  subst qc
  go_enter Tryd.func16, Tryd.ntmps16
  go_wp2
  all_goals go_ret
  all_goals first | exact ⟨rfl, rfl⟩ | (exfalso; go_light; simp_all; done) | (exfalso; go_light; simp_all; omega)
set_option maxHeartbeats 400000 in
theorem sp_r (b off n cap i e : Nat) (c c1 c2 : Int) (w : World) (hie : i < e) (hen : e ≤ n) (hn : n ≤ 1099511627776)
    (h0 : 0 ≤ c) (h1 : c < 256) (h10 : 0 ≤ c1) (h11 : c1 < 256) (h20 : 0 ≤ c2) (h21 : c2 < 256)
    (hc : w.cell? ⟨b, off + i, none⟩ = some (.int .u8 c)) (hb1 : i + 1 < e) (hb2 : i + 2 < e) (k1 : w.cell? ⟨b, off + (i + 1), none⟩ = some (.int .u8 c1)) (k2 : w.cell? ⟨b, off + (i + 2), none⟩ = some (.int .u8 c2)) (qc : c = 227) (qc1 : c1 = 128) (qc2 : c2 = 128) :
    Calls Tryd.prog 16 #[.slice (some ⟨b, off, none⟩) n cap, .int .i64 i, .int .i64 e] w fun r w' => r = .returned (.int .i64 3) ∧ w' = w := by
  subst qc
  subst qc1
  subst qc2
  go_enter Tryd.func16, Tryd.ntmps16
  go_wp2
  all_goals go_ret
  all_goals first | exact ⟨rfl, rfl⟩ | (exfalso; go_light; simp_all; done) | (exfalso; go_light; simp_all; omega)
set_option maxHeartbeats 400000 in
theorem sp_s (b off n cap i e : Nat) (c c1 c2 : Int) (w : World) (hie : i < e) (hen : e ≤ n) (hn : n ≤ 1099511627776)
    (h0 : 0 ≤ c) (h1 : c < 256) (h10 : 0 ≤ c1) (h11 : c1 < 256) (h20 : 0 ≤ c2) (h21 : c2 < 256)
    (hc : w.cell? ⟨b, off + i, none⟩ = some (.int .u8 c)) (hb1 : i + 1 < e) (hb2 : i + 2 < e) (k1 : w.cell? ⟨b, off + (i + 1), none⟩ = some (.int .u8 c1)) (k2 : w.cell? ⟨b, off + (i + 2), none⟩ = some (.int .u8 c2)) (qc : c = 227) (qc1 : c1 = 128) (n2 : (c2 == 128) = false) :
    Calls Tryd.prog 16 #[.slice (some ⟨b, off, none⟩) n cap, .int .i64 i, .int .i64 e] w fun r w' => r = .returned (.int .i64 0) ∧ w' = w := by
  subst qc
  subst qc1
  go_enter Tryd.func16, Tryd.ntmps16
  go_wp2
  all_goals go_ret
  all_goals first | exact ⟨rfl, rfl⟩ | (exfalso; go_light; simp_all; done) | (exfalso; go_light; simp_all; omega)
set_option maxHeartbeats 400000 in
theorem sp_t (b off n cap i e : Nat) (c c1 c2 : Int) (w : World) (hie : i < e) (hen : e ≤ n) (hn : n ≤ 1099511627776)
    (h0 : 0 ≤ c) (h1 : c < 256) (h10 : 0 ≤ c1) (h11 : c1 < 256) (h20 : 0 ≤ c2) (h21 : c2 < 256)
    (hc : w.cell? ⟨b, off + i, none⟩ = some (.int .u8 c)) (hb1 : i + 1 < e) (hb2 : i + 2 < e) (k1 : w.cell? ⟨b, off + (i + 1), none⟩ = some (.int .u8 c1)) (k2 : w.cell? ⟨b, off + (i + 2), none⟩ = some (.int .u8 c2)) (qc : c = 227) (n1 : (c1 == 128) = false) :
    Calls Tryd.prog 16 #[.slice (some ⟨b, off, none⟩) n cap, .int .i64 i, .int .i64 e] w fun r w' => r = .returned (.int .i64 0) ∧ w' = w := by
  subst qc
  go_enter Tryd.func16, Tryd.ntmps16
  go_wp2
  all_goals go_ret
  all_goals first | exact ⟨rfl, rfl⟩ | (exfalso; go_light; simp_all; done) | (exfalso; go_light; simp_all; omega)
set_option maxHeartbeats 400000 in
theorem sp_u1 (b off n cap i e : Nat) (c c1 c2 : Int) (w : World) (hie : i < e) (hen : e ≤ n) (hn : n ≤ 1099511627776)
    (h0 : 0 ≤ c) (h1 : c < 256) (h10 : 0 ≤ c1) (h11 : c1 < 256) (h20 : 0 ≤ c2) (h21 : c2 < 256)
    (hc : w.cell? ⟨b, off + i, none⟩ = some (.int .u8 c)) (hb1 : i + 1 < e) (hb2 : i + 2 < e) (k1 : w.cell? ⟨b, off + (i + 1), none⟩ = some (.int .u8 c1)) (k2 : w.cell? ⟨b, off + (i + 2), none⟩ = some (.int .u8 c2)) (n0 : (c == 194) = false) (n1 : (c == 225) = false) (n2 : (c == 226) = false) (n4 : (c == 227) = false) (lo : c < 9) :
    Calls Tryd.prog 16 #[.slice (some ⟨b, off, none⟩) n cap, .int .i64 i, .int .i64 e] w fun r w' => r = .returned (.int .i64 0) ∧ w' = w := by
  go_enter Tryd.func16, Tryd.ntmps16
  go_wp2
  all_goals go_ret
  all_goals first | exact ⟨rfl, rfl⟩ | (exfalso; go_light; simp_all; done) | (exfalso; go_light; simp_all; omega)
set_option maxHeartbeats 400000 in
theorem sp_u2 (b off n cap i e : Nat) (c c1 c2 : Int) (w : World) (hie : i < e) (hen : e ≤ n) (hn : n ≤ 1099511627776)
    (h0 : 0 ≤ c) (h1 : c < 256) (h10 : 0 ≤ c1) (h11 : c1 < 256) (h20 : 0 ≤ c2) (h21 : c2 < 256)
    (hc : w.cell? ⟨b, off + i, none⟩ = some (.int .u8 c)) (hb1 : i + 1 < e) (hb2 : i + 2 < e) (k1 : w.cell? ⟨b, off + (i + 1), none⟩ = some (.int .u8 c1)) (k2 : w.cell? ⟨b, off + (i + 2), none⟩ = some (.int .u8 c2)) (n0 : (c == 194) = false) (n1 : (c == 225) = false) (n2 : (c == 226) = false) (n4 : (c == 227) = false) (n3 : (c == 32) = false) (hi : 13 < c) (hi9 : 9 ≤ c) :
    Calls Tryd.prog 16 #[.slice (some ⟨b, off, none⟩) n cap, .int .i64 i, .int .i64 e] w fun r w' => r = .returned (.int .i64 0) ∧ w' = w := by
  go_enter Tryd.func16, Tryd.ntmps16
  go_wp2
  all_goals go_ret
  all_goals first | exact ⟨rfl, rfl⟩ | (exfalso; go_light; simp_all; done) | (exfalso; go_light; simp_all; omega)
end Go.Proofs.Qxb6602621aDoor
