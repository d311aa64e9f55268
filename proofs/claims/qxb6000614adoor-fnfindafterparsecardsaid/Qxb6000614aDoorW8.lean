/-
  WALKS of seat b6000614aD: the laws' bounds on their arguments' bytes.
-/
import Derived.Test.Qxb6000614aDoorW7
set_option linter.unusedVariables false
namespace Go.Proofs.Qxb6000614aDoor
open Go.RowKit Go.Lib

def BEnd (e : Ending) : Prop := ∃ v : Bool, e = .returned (.bool v)
set_option maxHeartbeats 1000000 in
set_option maxRecDepth 100000 in
theorem bytes7 (sa sb : ByteArray) (pna : Option Addr) (cna : Nat) (na : List ByteArray) (pva : Option Addr) (cva : Nat) (va : List ByteArray) (pnb : Option Addr) (cnb : Nat) (nb : List ByteArray) (pvb : Option Addr) (cvb : Nat) (vb : List ByteArray) (w : World) (hsa : sa.size ≤ maxLen) (hna : na.length ≤ maxLen) (Vna : ViewS w pna na) (hva : va.length ≤ maxLen) (Vva : ViewS w pva va) (hsb : sb.size ≤ maxLen) (hnb : nb.length ≤ maxLen) (Vnb : ViewS w pnb nb) (hvb : vb.length ≤ maxLen) (Vvb : ViewS w pvb vb) :
    Calls Tryd.prog 7 #[.string sa, .slice pna na.length cna, .slice pva va.length cva, .string sb, .slice pnb nb.length cnb, .slice pvb vb.length cvb] w fun e w' => BEnd e ∧ w' = w := by
  have Hna := hide Vna
  have Hva := hide Vva
  have Hnb := hide Vnb
  have Hvb := hide Vvb
  clear Vna Vva Vnb Vvb
  unfold maxLen at hsa hna hva hsb hnb hvb
  have gsa : (0 : Int) ≤ (sa.size : Int) := by omega
  have gna : (0 : Int) ≤ (na.length : Int) := by omega
  have gva : (0 : Int) ≤ (va.length : Int) := by omega
  have gsb : (0 : Int) ≤ (sb.size : Int) := by omega
  have gnb : (0 : Int) ≤ (nb.length : Int) := by omega
  have gvb : (0 : Int) ≤ (vb.length : Int) := by omega
  by_cases asa : (1048576 : Int) < (sa.size : Int)
  · go_enter Tryd.func7, Tryd.ntmps7
    go_wp2
    go_ret
    exact ⟨⟨_, rfl⟩, rfl⟩
  have bsa : (sa.size : Int) ≤ 1048576 := by omega
  clear asa
  by_cases ana : (1048576 : Int) < (na.length : Int)
  · go_enter Tryd.func7, Tryd.ntmps7
    go_wp2
    go_ret
    exact ⟨⟨_, rfl⟩, rfl⟩
  have bna : (na.length : Int) ≤ 1048576 := by omega
  clear ana
  by_cases dna : (1048576 : Int) < (sa.size : Int) + (na.length : Int)
  · go_enter Tryd.func7, Tryd.ntmps7
    go_wp2
    go_ret
    exact ⟨⟨_, rfl⟩, rfl⟩
  have ena : (sa.size : Int) + (na.length : Int) ≤ 1048576 := by omega
  clear dna
  go_enter Tryd.func7, Tryd.ntmps7
  go_wp2
  go_loop [13, 14] (fun t x => ∃ (i : Nat) (z : Int), i ≤ na.length ∧ x = .int .i64 i ∧ t = .int .i64 z ∧ 0 ≤ z ∧ z ≤ 1048576) (fun _ x => na.length - (RowKit.intOf x).toNat)
  case atStart => exact ⟨0, _, Nat.zero_le _, rfl, rfl, by omega, by omega⟩
  case round =>
    obtain ⟨ina, zna, qna, rfl, rfl, rna, sna⟩ := hrel
    by_cases tna : ina < na.length
    · obtain ⟨b, o, rfl, hc⟩ := unhide Hna (by omega)
      have hci := hc ina tna
      clear hc
      generalize hSI : (na[ina].size : Nat) = m at *
      by_cases k1 : (1048576 : Int) < (m : Int)
      · go_wp2
        go_ret
        exact ⟨⟨_, rfl⟩, rfl⟩
      have k1' : (m : Int) ≤ 1048576 := by omega
      by_cases k2 : (1048576 : Int) < zna + (m : Int)
      · go_wp2
        go_ret
        exact ⟨⟨_, rfl⟩, rfl⟩
      have k2' : zna + (m : Int) ≤ 1048576 := by omega
      have k0 : (0 : Int) ≤ (m : Int) := by omega
      go_wp2
      go_round
      case rel => exact ⟨ina + 1, zna + (m : Int), tna, by go_num, rfl, by omega, k2'⟩
      case measure => simp [RowKit.intOf]; omega
    by_cases ava : (1048576 : Int) < (va.length : Int)
    · go_wp2
      go_ret
      exact ⟨⟨_, rfl⟩, rfl⟩
    have bva : (va.length : Int) ≤ 1048576 := by omega
    clear ava
    by_cases dva : (1048576 : Int) < zna + (va.length : Int)
    · go_wp2
      go_ret
      exact ⟨⟨_, rfl⟩, rfl⟩
    have eva : zna + (va.length : Int) ≤ 1048576 := by omega
    clear dva
    go_wp2
    go_loop [13, 15] (fun t x => ∃ (i : Nat) (z : Int), i ≤ va.length ∧ x = .int .i64 i ∧ t = .int .i64 z ∧ 0 ≤ z ∧ z ≤ 1048576) (fun _ x => va.length - (RowKit.intOf x).toNat)
    case atStart => exact ⟨0, _, Nat.zero_le _, rfl, rfl, by omega, by omega⟩
    case round =>
      obtain ⟨iva, zva, qva, rfl, rfl, rva, sva⟩ := hrel
      by_cases tva : iva < va.length
      · obtain ⟨b, o, rfl, hc⟩ := unhide Hva (by omega)
        have hci := hc iva tva
        clear hc
        generalize hSI : (va[iva].size : Nat) = m at *
        by_cases k1 : (1048576 : Int) < (m : Int)
        · go_wp2
          go_ret
          exact ⟨⟨_, rfl⟩, rfl⟩
        have k1' : (m : Int) ≤ 1048576 := by omega
        by_cases k2 : (1048576 : Int) < zva + (m : Int)
        · go_wp2
          go_ret
          exact ⟨⟨_, rfl⟩, rfl⟩
        have k2' : zva + (m : Int) ≤ 1048576 := by omega
        have k0 : (0 : Int) ≤ (m : Int) := by omega
        go_wp2
        go_round
        case rel => exact ⟨iva + 1, zva + (m : Int), tva, by go_num, rfl, by omega, k2'⟩
        case measure => simp [RowKit.intOf]; omega
      by_cases asb : (1048576 : Int) < (sb.size : Int)
      · go_wp2
        go_ret
        exact ⟨⟨_, rfl⟩, rfl⟩
      have bsb : (sb.size : Int) ≤ 1048576 := by omega
      clear asb
      by_cases dsb : (1048576 : Int) < zva + (sb.size : Int)
      · go_wp2
        go_ret
        exact ⟨⟨_, rfl⟩, rfl⟩
      have esb : zva + (sb.size : Int) ≤ 1048576 := by omega
      clear dsb
      by_cases anb : (1048576 : Int) < (nb.length : Int)
      · go_wp2
        go_ret
        exact ⟨⟨_, rfl⟩, rfl⟩
      have bnb : (nb.length : Int) ≤ 1048576 := by omega
      clear anb
      by_cases dnb : (1048576 : Int) < zva + (sb.size : Int) + (nb.length : Int)
      · go_wp2
        go_ret
        exact ⟨⟨_, rfl⟩, rfl⟩
      have enb : zva + (sb.size : Int) + (nb.length : Int) ≤ 1048576 := by omega
      clear dnb
      go_wp2
      go_loop [13, 16] (fun t x => ∃ (i : Nat) (z : Int), i ≤ nb.length ∧ x = .int .i64 i ∧ t = .int .i64 z ∧ 0 ≤ z ∧ z ≤ 1048576) (fun _ x => nb.length - (RowKit.intOf x).toNat)
      case atStart => exact ⟨0, _, Nat.zero_le _, rfl, rfl, by omega, by omega⟩
      case round =>
        obtain ⟨inb, znb, qnb, rfl, rfl, rnb, snb⟩ := hrel
        by_cases tnb : inb < nb.length
        · obtain ⟨b, o, rfl, hc⟩ := unhide Hnb (by omega)
          have hci := hc inb tnb
          clear hc
          generalize hSI : (nb[inb].size : Nat) = m at *
          by_cases k1 : (1048576 : Int) < (m : Int)
          · go_wp2
            go_ret
            exact ⟨⟨_, rfl⟩, rfl⟩
          have k1' : (m : Int) ≤ 1048576 := by omega
          by_cases k2 : (1048576 : Int) < znb + (m : Int)
          · go_wp2
            go_ret
            exact ⟨⟨_, rfl⟩, rfl⟩
          have k2' : znb + (m : Int) ≤ 1048576 := by omega
          have k0 : (0 : Int) ≤ (m : Int) := by omega
          go_wp2
          go_round
          case rel => exact ⟨inb + 1, znb + (m : Int), tnb, by go_num, rfl, by omega, k2'⟩
          case measure => simp [RowKit.intOf]; omega
        by_cases avb : (1048576 : Int) < (vb.length : Int)
        · go_wp2
          go_ret
          exact ⟨⟨_, rfl⟩, rfl⟩
        have bvb : (vb.length : Int) ≤ 1048576 := by omega
        clear avb
        by_cases dvb : (1048576 : Int) < znb + (vb.length : Int)
        · go_wp2
          go_ret
          exact ⟨⟨_, rfl⟩, rfl⟩
        have evb : znb + (vb.length : Int) ≤ 1048576 := by omega
        clear dvb
        go_wp2
        go_loop [13, 17] (fun t x => ∃ (i : Nat) (z : Int), i ≤ vb.length ∧ x = .int .i64 i ∧ t = .int .i64 z ∧ 0 ≤ z ∧ z ≤ 1048576) (fun _ x => vb.length - (RowKit.intOf x).toNat)
        case atStart => exact ⟨0, _, Nat.zero_le _, rfl, rfl, by omega, by omega⟩
        case round =>
          obtain ⟨ivb, zvb, qvb, rfl, rfl, rvb, svb⟩ := hrel
          by_cases tvb : ivb < vb.length
          · obtain ⟨b, o, rfl, hc⟩ := unhide Hvb (by omega)
            have hci := hc ivb tvb
            clear hc
            generalize hSI : (vb[ivb].size : Nat) = m at *
            by_cases k1 : (1048576 : Int) < (m : Int)
            · go_wp2
              go_ret
              exact ⟨⟨_, rfl⟩, rfl⟩
            have k1' : (m : Int) ≤ 1048576 := by omega
            by_cases k2 : (1048576 : Int) < zvb + (m : Int)
            · go_wp2
              go_ret
              exact ⟨⟨_, rfl⟩, rfl⟩
            have k2' : zvb + (m : Int) ≤ 1048576 := by omega
            have k0 : (0 : Int) ≤ (m : Int) := by omega
            go_wp2
            go_round
            case rel => exact ⟨ivb + 1, zvb + (m : Int), tvb, by go_num, rfl, by omega, k2'⟩
            case measure => simp [RowKit.intOf]; omega
          go_wp2
          go_ret
          exact ⟨⟨_, rfl⟩, rfl⟩
set_option maxHeartbeats 1000000 in
set_option maxRecDepth 100000 in
theorem bytes23 (sq : ByteArray) (pls : Option Addr) (cls : Nat) (ls : List ByteArray) (w : World) (hls : ls.length ≤ maxLen) (Vls : ViewS w pls ls) (hsq : sq.size ≤ maxLen) :
    Calls Tryd.prog 23 #[.slice pls ls.length cls, .string sq] w fun e w' => BEnd e ∧ w' = w := by
  have Hls := hide Vls
  clear Vls
  unfold maxLen at hls hsq
  have gls : (0 : Int) ≤ (ls.length : Int) := by omega
  have gsq : (0 : Int) ≤ (sq.size : Int) := by omega
  by_cases als : (1048576 : Int) < (ls.length : Int)
  · go_enter Tryd.func23, Tryd.ntmps23
    go_wp2
    go_ret
    exact ⟨⟨_, rfl⟩, rfl⟩
  have bls : (ls.length : Int) ≤ 1048576 := by omega
  clear als
  go_enter Tryd.func23, Tryd.ntmps23
  go_wp2
  go_loop [5, 6] (fun t x => ∃ (i : Nat) (z : Int), i ≤ ls.length ∧ x = .int .i64 i ∧ t = .int .i64 z ∧ 0 ≤ z ∧ z ≤ 1048576) (fun _ x => ls.length - (RowKit.intOf x).toNat)
  case atStart => exact ⟨0, _, Nat.zero_le _, rfl, rfl, by omega, by omega⟩
  case round =>
    obtain ⟨ils, zls, qls, rfl, rfl, rls, sls⟩ := hrel
    by_cases tls : ils < ls.length
    · obtain ⟨b, o, rfl, hc⟩ := unhide Hls (by omega)
      have hci := hc ils tls
      clear hc
      generalize hSI : (ls[ils].size : Nat) = m at *
      by_cases k1 : (1048576 : Int) < (m : Int)
      · go_wp2
        go_ret
        exact ⟨⟨_, rfl⟩, rfl⟩
      have k1' : (m : Int) ≤ 1048576 := by omega
      by_cases k2 : (1048576 : Int) < zls + (m : Int)
      · go_wp2
        go_ret
        exact ⟨⟨_, rfl⟩, rfl⟩
      have k2' : zls + (m : Int) ≤ 1048576 := by omega
      have k0 : (0 : Int) ≤ (m : Int) := by omega
      go_wp2
      go_round
      case rel => exact ⟨ils + 1, zls + (m : Int), tls, by go_num, rfl, by omega, k2'⟩
      case measure => simp [RowKit.intOf]; omega
    by_cases asq : (1048576 : Int) < (sq.size : Int)
    · go_wp2
      go_ret
      exact ⟨⟨_, rfl⟩, rfl⟩
    have bsq : (sq.size : Int) ≤ 1048576 := by omega
    clear asq
    by_cases dsq : (1048576 : Int) < zls + (sq.size : Int)
    · go_wp2
      go_ret
      exact ⟨⟨_, rfl⟩, rfl⟩
    have esq : zls + (sq.size : Int) ≤ 1048576 := by omega
    clear dsq
    go_wp2
    go_ret
    exact ⟨⟨_, rfl⟩, rfl⟩
end Go.Proofs.Qxb6000614aDoor
