/-
  WALKS of seat b6602621aD: zzPsSpaceAt over a list of bytes; zzPsIsAllSpace.
-/
import Derived.Test.Qxb6602621aDoorW1
namespace Go.Proofs.Qxb6602621aDoor
open Go.RowKit Go.Lib

theorem ret_int {k : IntKind} {a b : Int} (h : a = b) : Ending.returned (.int k a) = .returned (.int k b) := by rw [h]
theorem hide {p : Prop} (h : p) : Hid p := h
theorem unhide {p : Prop} (h : Hid p) : p := h.out
theorem beqf {a b : Int} (h : ¬ a = b) : (a == b) = false := beq_eq_false_iff_ne.2 h

theorem spaceAt_any (b off n cap i e : Nat) (c c1 c2 : Int) (w : World) (hie : i < e) (hen : e ≤ n) (hn : n ≤ 1099511627776)
    (h0 : 0 ≤ c) (h1 : c < 256) (h10 : 0 ≤ c1) (h11 : c1 < 256) (h20 : 0 ≤ c2) (h21 : c2 < 256)
    (hc : w.cell? ⟨b, off + i, none⟩ = some (.int .u8 c))
    (hc1 : i + 1 < e → w.cell? ⟨b, off + (i + 1), none⟩ = some (.int .u8 c1))
    (hc2 : i + 2 < e → w.cell? ⟨b, off + (i + 2), none⟩ = some (.int .u8 c2)) :
    Calls Tryd.prog 16 #[.slice (some ⟨b, off, none⟩) n cap, .int .i64 i, .int .i64 e] w fun r w' => r = .returned (.int .i64 (spW (e - i) c.toNat c1.toNat c2.toNat)) ∧ w' = w := by
  have fin : ∀ k : Nat, spW (e - i) c.toNat c1.toNat c2.toNat = k → (Calls Tryd.prog 16 #[.slice (some ⟨b, off, none⟩) n cap, .int .i64 i, .int .i64 e] w fun r w' => r = .returned (.int .i64 (k : Int)) ∧ w' = w) →
      Calls Tryd.prog 16 #[.slice (some ⟨b, off, none⟩) n cap, .int .i64 i, .int .i64 e] w fun r w' => r = .returned (.int .i64 (spW (e - i) c.toNat c1.toNat c2.toNat)) ∧ w' = w := fun k hk h => by rw [hk]; exact h
  by_cases a1 : c = 32
  · exact fin 1 (by unfold spW; rw [if_pos (by omega)]) (sp_a b off n cap i e c c1 c2 w hie hen hn h0 h1 h10 h11 h20 h21 hc a1)
  by_cases a2 : 9 ≤ c ∧ c ≤ 13
  · exact fin 1 (by unfold spW; rw [if_pos (by omega)]) (sp_b b off n cap i e c c1 c2 w hie hen hn h0 h1 h10 h11 h20 h21 hc a2.1 a2.2)
  have z1 : ¬ (c.toNat = 32 ∨ (9 ≤ c.toNat ∧ c.toNat ≤ 13)) := by omega
  by_cases hb1 : i + 1 < e
  · have k1 := hc1 hb1
    by_cases a3 : c = 194
    · by_cases a4 : c1 = 133
      · exact fin 2 (by unfold spW; rw [if_neg z1, if_pos (by omega)]) (sp_c b off n cap i e c c1 c2 w hie hen hn h0 h1 h10 h11 h20 h21 hc hb1 k1 a3 a4)
      by_cases a5 : c1 = 160
      · exact fin 2 (by unfold spW; rw [if_neg z1, if_pos (by omega)]) (sp_d b off n cap i e c c1 c2 w hie hen hn h0 h1 h10 h11 h20 h21 hc hb1 k1 a3 a5)
      have z : spW (e - i) c.toNat c1.toNat c2.toNat = 0 := by unfold spW; rw [if_neg z1, if_neg (by omega), if_neg (by omega)]
      by_cases hb2 : i + 2 < e
      · exact fin 0 z (sp_e b off n cap i e c c1 c2 w hie hen hn h0 h1 h10 h11 h20 h21 hc hb1 k1 hb2 (hc2 hb2) a3 (beqf a4) (beqf a5))
      · exact fin 0 z (sp_f b off n cap i e c c1 c2 w hie hen hn h0 h1 h10 h11 h20 h21 hc hb1 k1 hb2 a3 (beqf a4) (beqf a5))
    have z2 : ¬ (c.toNat = 194 ∧ 1 < e - i ∧ (c1.toNat = 133 ∨ c1.toNat = 160)) := by omega
    by_cases hb2 : i + 2 < e
    · have k2 := hc2 hb2
      by_cases a6 : c = 225
      · by_cases a7 : c1 = 154
        · by_cases a8 : c2 = 128
          · exact fin 3 (by unfold spW; rw [if_neg z1, if_neg z2, if_pos (by omega)]) (sp_i b off n cap i e c c1 c2 w hie hen hn h0 h1 h10 h11 h20 h21 hc hb1 hb2 k1 k2 a6 a7 a8)
          · exact fin 0 (by unfold spW; rw [if_neg z1, if_neg z2, if_neg (by omega)]) (sp_j b off n cap i e c c1 c2 w hie hen hn h0 h1 h10 h11 h20 h21 hc hb1 hb2 k1 k2 a6 a7 (beqf a8))
        · exact fin 0 (by unfold spW; rw [if_neg z1, if_neg z2, if_neg (by omega)]) (sp_k b off n cap i e c c1 c2 w hie hen hn h0 h1 h10 h11 h20 h21 hc hb1 hb2 k1 k2 a6 (beqf a7))
      by_cases a9 : c = 226
      · by_cases a10 : c1 = 128
        · by_cases a11 : 128 ≤ c2 ∧ c2 ≤ 138
          · exact fin 3 (by unfold spW; rw [if_neg z1, if_neg z2, if_pos (by omega)]) (sp_l b off n cap i e c c1 c2 w hie hen hn h0 h1 h10 h11 h20 h21 hc hb1 hb2 k1 k2 a9 a10 a11.1 a11.2)
          by_cases a12 : c2 = 168
          · exact fin 3 (by unfold spW; rw [if_neg z1, if_neg z2, if_pos (by omega)]) (sp_m1 b off n cap i e c c1 c2 w hie hen hn h0 h1 h10 h11 h20 h21 hc hb1 hb2 k1 k2 a9 a10 a12)
          by_cases a13 : c2 = 169
          · exact fin 3 (by unfold spW; rw [if_neg z1, if_neg z2, if_pos (by omega)]) (sp_m2 b off n cap i e c c1 c2 w hie hen hn h0 h1 h10 h11 h20 h21 hc hb1 hb2 k1 k2 a9 a10 a13)
          by_cases a14 : c2 = 175
          · exact fin 3 (by unfold spW; rw [if_neg z1, if_neg z2, if_pos (by omega)]) (sp_m3 b off n cap i e c c1 c2 w hie hen hn h0 h1 h10 h11 h20 h21 hc hb1 hb2 k1 k2 a9 a10 a14)
          have z : spW (e - i) c.toNat c1.toNat c2.toNat = 0 := by unfold spW; rw [if_neg z1, if_neg z2, if_neg (by omega)]
          by_cases a15 : c2 < 128
          · exact fin 0 z (sp_n1 b off n cap i e c c1 c2 w hie hen hn h0 h1 h10 h11 h20 h21 hc hb1 hb2 k1 k2 a9 a10 a15)
          · exact fin 0 z (sp_n2 b off n cap i e c c1 c2 w hie hen hn h0 h1 h10 h11 h20 h21 hc hb1 hb2 k1 k2 a9 a10 (by omega) (beqf a12) (beqf a13) (beqf a14))
        by_cases a16 : c1 = 129
        · by_cases a17 : c2 = 159
          · exact fin 3 (by unfold spW; rw [if_neg z1, if_neg z2, if_pos (by omega)]) (sp_o b off n cap i e c c1 c2 w hie hen hn h0 h1 h10 h11 h20 h21 hc hb1 hb2 k1 k2 a9 a16 a17)
          · exact fin 0 (by unfold spW; rw [if_neg z1, if_neg z2, if_neg (by omega)]) (sp_p b off n cap i e c c1 c2 w hie hen hn h0 h1 h10 h11 h20 h21 hc hb1 hb2 k1 k2 a9 a16 (beqf a17))
        · exact fin 0 (by unfold spW; rw [if_neg z1, if_neg z2, if_neg (by omega)]) (sp_q b off n cap i e c c1 c2 w hie hen hn h0 h1 h10 h11 h20 h21 hc hb1 hb2 k1 k2 a9 (beqf a10) (beqf a16))
      by_cases a18 : c = 227
      · by_cases a19 : c1 = 128
        · by_cases a20 : c2 = 128
          · exact fin 3 (by unfold spW; rw [if_neg z1, if_neg z2, if_pos (by omega)]) (sp_r b off n cap i e c c1 c2 w hie hen hn h0 h1 h10 h11 h20 h21 hc hb1 hb2 k1 k2 a18 a19 a20)
          · exact fin 0 (by unfold spW; rw [if_neg z1, if_neg z2, if_neg (by omega)]) (sp_s b off n cap i e c c1 c2 w hie hen hn h0 h1 h10 h11 h20 h21 hc hb1 hb2 k1 k2 a18 a19 (beqf a20))
        · exact fin 0 (by unfold spW; rw [if_neg z1, if_neg z2, if_neg (by omega)]) (sp_t b off n cap i e c c1 c2 w hie hen hn h0 h1 h10 h11 h20 h21 hc hb1 hb2 k1 k2 a18 (beqf a19))
      have z : spW (e - i) c.toNat c1.toNat c2.toNat = 0 := by unfold spW; rw [if_neg z1, if_neg z2, if_neg (by omega)]
      by_cases a21 : c < 9
      · exact fin 0 z (sp_u1 b off n cap i e c c1 c2 w hie hen hn h0 h1 h10 h11 h20 h21 hc hb1 hb2 k1 k2 (beqf a3) (beqf a6) (beqf a9) (beqf a18) a21)
      · exact fin 0 z (sp_u2 b off n cap i e c c1 c2 w hie hen hn h0 h1 h10 h11 h20 h21 hc hb1 hb2 k1 k2 (beqf a3) (beqf a6) (beqf a9) (beqf a18) (beqf a1) (by omega) (by omega))
    · have z : spW (e - i) c.toNat c1.toNat c2.toNat = 0 := by unfold spW; rw [if_neg z1, if_neg z2, if_neg (by omega)]
      by_cases a21 : c < 9
      · exact fin 0 z (sp_h1 b off n cap i e c c1 c2 w hie hen hn h0 h1 h10 h11 h20 h21 hc hb2 (beqf a3) a21)
      · exact fin 0 z (sp_h2 b off n cap i e c c1 c2 w hie hen hn h0 h1 h10 h11 h20 h21 hc hb2 (beqf a3) (beqf a1) (by omega) (by omega))
  · have hb2 : ¬ i + 2 < e := by omega
    have z : spW (e - i) c.toNat c1.toNat c2.toNat = 0 := by unfold spW; rw [if_neg z1, if_neg (by omega), if_neg (by omega)]
    by_cases a3 : c = 194
    · exact fin 0 z (sp_g b off n cap i e c c1 c2 w hie hen hn h0 h1 h10 h11 h20 h21 hc hb1 hb2 a3)
    by_cases a21 : c < 9
    · exact fin 0 z (sp_h1 b off n cap i e c c1 c2 w hie hen hn h0 h1 h10 h11 h20 h21 hc hb2 (beqf a3) a21)
    · exact fin 0 z (sp_h2 b off n cap i e c c1 c2 w hie hen hn h0 h1 h10 h11 h20 h21 hc hb2 (beqf a3) (beqf a1) (by omega) (by omega))

/-- The bytes l lie in the block b from off on. -/
def HasB (w : World) (b off : Nat) (l : List UInt8) : Prop := ∀ j, j < l.length → w.cell? ⟨b, off + j, none⟩ = some (.int .u8 (l.getD j 0).toNat)

theorem getD_sub (l : List UInt8) (i e k : Nat) (hk : i + k < e) : ((l.take e).drop i).getD k 0 = l.getD (i + k) 0 := by
  rw [getD_dropU, getD_takeU _ _ _ hk]

/-- zzPsSpaceAt(b, i, end), b holding l: the width of the white-space rune at the head of l[i:end]. -/
theorem spaceAt_l (b off cap i e : Nat) (l : List UInt8) (w : World) (hie : i < e) (hen : e ≤ l.length) (hn : l.length ≤ 1099511627776) (hB : HasB w b off l) :
    Calls Tryd.prog 16 #[.slice (some ⟨b, off, none⟩) l.length cap, .int .i64 i, .int .i64 e] w fun r w' => r = .returned (.int .i64 (headSpace ((l.take e).drop i))) ∧ w' = w := by
  have hlen : ((l.take e).drop i).length = e - i := by rw [List.length_drop, List.length_take]; omega
  have hne : (l.take e).drop i ≠ [] := fun h => by rw [h] at hlen; simp at hlen; omega
  rw [headSpace_spW _ hne, hlen]
  by_cases hb1 : i + 1 < e
  · by_cases hb2 : i + 2 < e
    · have h := spaceAt_any b off l.length cap i e (l.getD i 0).toNat (l.getD (i + 1) 0).toNat (l.getD (i + 2) 0).toNat w hie hen hn (by omega) (by have := UInt8.toNat_lt (l.getD i 0); omega) (by omega) (by have := UInt8.toNat_lt (l.getD (i+1) 0); omega) (by omega) (by have := UInt8.toNat_lt (l.getD (i+2) 0); omega)
        (hB i (by omega)) (fun _ => hB (i + 1) (by omega)) (fun _ => hB (i + 2) (by omega))
      rw [getD_sub l i e 0 (by omega), getD_sub l i e 1 hb1, getD_sub l i e 2 hb2]
      simpa using h
    · have h := spaceAt_any b off l.length cap i e (l.getD i 0).toNat (l.getD (i + 1) 0).toNat (((l.take e).drop i).getD 2 0).toNat w hie hen hn (by omega) (by have := UInt8.toNat_lt (l.getD i 0); omega) (by omega) (by have := UInt8.toNat_lt (l.getD (i+1) 0); omega) (by omega) (by have := UInt8.toNat_lt (((l.take e).drop i).getD 2 0); omega)
        (hB i (by omega)) (fun _ => hB (i + 1) (by omega)) (fun h => absurd h hb2)
      rw [getD_sub l i e 0 (by omega), getD_sub l i e 1 hb1]
      simpa using h
  · have h := spaceAt_any b off l.length cap i e (l.getD i 0).toNat (((l.take e).drop i).getD 1 0).toNat (((l.take e).drop i).getD 2 0).toNat w hie hen hn (by omega) (by have := UInt8.toNat_lt (l.getD i 0); omega) (by omega) (by have := UInt8.toNat_lt (((l.take e).drop i).getD 1 0); omega) (by omega) (by have := UInt8.toNat_lt (((l.take e).drop i).getD 2 0); omega)
        (hB i (by omega)) (fun h => absurd h hb1) (fun h => absurd h (by omega))
    rw [getD_sub l i e 0 (by omega)]
    simpa using h

/-- A slice of bytes: where there is a byte, an address with its cells. -/
def View (w : World) (p : Option Addr) (l : List UInt8) : Prop := 0 < l.length → ∃ b o, p = some ⟨b, o, none⟩ ∧ HasB w b o l

theorem blank_step {l : List UInt8} {i : Nat} (h : Blank (l.take i)) (hw : headSpace (l.drop i) ≠ 0) : Blank (l.take (i + headSpace (l.drop i))) := by
  rcases headSpace_find (l.drop i) with h0 | ⟨q, hq, t, e1, e2⟩
  · exact absurd h0 hw
  · have : l.take (i + headSpace (l.drop i)) = l.take i ++ q := by
      rw [List.take_add, e2, e1, List.take_left' rfl]
    rw [this]
    exact h.snoc hq

/-- What zzPsIsAllSpace answers: true only of white space. -/
def AllSp (l : List UInt8) (r : Ending) : Prop := ∃ v : Bool, r = .returned (.bool v) ∧ (v = true → Blank l)

set_option maxHeartbeats 400000 in
theorem isAllSpace_any (p : Option Addr) (cap : Nat) (l : List UInt8) (w : World) (hn : l.length ≤ 1099511627776) (hV : View w p l) :
    Calls Tryd.prog 10 #[.slice p l.length cap] w fun r w' => AllSp l r ∧ w' = w := by
  by_cases hl : 0 < l.length
  · obtain ⟨b, off, rfl, hB⟩ := hV hl
    have cS := fun i hie => spaceAt_l b off cap i l.length l w hie (Nat.le_refl _) hn hB
    have HS := hide cS
    clear cS hV hB
    go_enter Tryd.func10, Tryd.ntmps10
    go_wp2
    go_loop [3] (fun x => ∃ i : Nat, i ≤ l.length ∧ x = .int .i64 i ∧ Hid (Blank (l.take i))) (fun x => l.length - (intOf x).toNat)
    case atStart => exact ⟨0, Nat.zero_le _, rfl, Blank.nil⟩
    case round =>
      obtain ⟨i, hi, rfl, hbl⟩ := hrel
      by_cases hlt : i < l.length
      · have hle := headSpace_le (l.drop i)
        rw [List.length_drop] at hle
        by_cases hz : headSpace (l.drop i) = 0
        · go_wp2_with fail
          refine (unhide HS i hlt).mono ?_
          rw [List.take_length, hz]
          rintro e w' ⟨rfl, hw⟩
          subst hw
          go_wp2
          go_ret
          exact ⟨⟨false, rfl, fun h => by cases h⟩, rfl⟩
        · go_wp2_with fail
          refine (unhide HS i hlt).mono ?_
          rw [List.take_length]
          have hst := hide (blank_step hbl.out hz)
          generalize headSpace (l.drop i) = k at *
          have hzb : ((k : Int) == 0) = false := beqf (by omega)
          rintro e w' ⟨rfl, hw⟩
          subst hw
          go_wp2
          go_round
          case rel => exact ⟨i + k, by omega, by go_num, unhide hst⟩
          case measure => simp [intOf]; omega
      · have hi' : i = l.length := by omega
        subst hi'
        go_wp2
        go_ret
        refine ⟨⟨true, rfl, fun _ => ?_⟩, rfl⟩
        have := hbl.out
        rwa [List.take_length] at this
  · have hl0 : l = [] := List.eq_nil_of_length_eq_zero (by omega)
    subst hl0
    go_enter Tryd.func10, Tryd.ntmps10
    go_wp2
    go_loop [3] (fun x => x = .int .i64 0) (fun _ => 0)
    case atStart => rfl
    case round =>
      subst hrel
      go_wp2
      go_ret
      exact ⟨⟨true, rfl, fun _ => Blank.nil⟩, rfl⟩

end Go.Proofs.Qxb6602621aDoor
