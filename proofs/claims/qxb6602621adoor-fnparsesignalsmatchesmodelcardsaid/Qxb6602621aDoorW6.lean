/-
  WALKS of seat b6602621aD: bytes.TrimSpace at every slice of bytes.
-/
import Derived.Test.Qxb6602621aDoorW5
import Derived.Lib.LaidTab
namespace Go.Proofs.Qxb6602621aDoor
open Go.RowKit Go.Lib

/-! ### plain: TrimFunc's cut at unicode.IsSpace -/
theorem idx_left (s : ByteArray) : ∀ f pos, idxFuncFrom isSpaceR false s f pos = leftFrom s f pos
  | 0, _ => rfl
  | f + 1, pos => by
    unfold idxFuncFrom leftFrom
    rw [idx_left s f]
    cases h : isSpaceR (Utf8.decode s pos).1 <;> simp
theorem idx_right (s : ByteArray) : ∀ f i, lastIdxFuncFrom isSpaceR false s f i = rightFrom s f i
  | 0, _ => rfl
  | f + 1, i => by
    unfold lastIdxFuncFrom rightFrom
    rw [idx_right s f]
    cases h : isSpaceR (decodeLastL (s.data.toList.take i)).1 <;> simp
theorem end_right (s : ByteArray) : rightEndF isSpaceR s = rightEnd s := by
  unfold rightEndF rightEnd lastIdxFunc rightIdx
  rw [idx_right]
theorem rightEnd_le (s : ByteArray) : rightEnd s ≤ s.size := by
  unfold rightEnd
  split
  · rename_i h
    rcases rightFrom_lt s s.size s.size (Nat.le_refl _) with hm | hlt
    · unfold rightIdx at h; omega
    · have hlt2 : (rightIdx s).toNat < s.size := by unfold rightIdx; omega
      have hw1 := Lib.decodeGo_le_size (s.extract (rightIdx s).toNat s.size)
      rw [Lib.tail_size] at hw1
      change (Lib.decodeGoB (s.extract (rightIdx s).toNat s.size)).2 ≤ _ at hw1
      omega
  · omega

/-- A slice of bytes that came out of a call: nil where there is none, else an address with its cells. -/
def SliceB (w : World) (v : Value) (l : List UInt8) : Prop :=
  (v = .slice none 0 0 ∧ l = []) ∨ ∃ b o c, v = .slice (some ⟨b, o, none⟩) l.length c ∧ l.length ≤ c ∧ HasB w b o l

theorem getD_at (s : ByteArray) (j : Nat) : s.data.toList.getD j 0 = s.get! j := getD_get!' s j

theorem trimCut_view (s : ByteArray) (b off cap : Nat) (w : World) (hcap : s.size ≤ cap) (hB : HasB w b off s.data.toList) : SliceB w (trimCut isSpaceR s b off cap) (trimSpaceD s.data.toList) := by
  rw [← goTrim_eq]
  have hl : idxFunc isSpaceR false s = leftIdx s := idx_left s _ _
  unfold trimCut goTrim goTrimLeft
  rw [hl]
  split
  · refine .inl ⟨rfl, ?_⟩
    rw [goTrimRight_eq]; rfl
  · rename_i hne
    rcases leftFrom_range s s.size 0 with h | ⟨h1, h2⟩
    · exact absurd h hne
    · have h1 : 0 ≤ leftIdx s := by unfold leftIdx; omega
      have h2 : leftIdx s < s.size := h2
      obtain ⟨i, hi⟩ := Int.eq_ofNat_of_zero_le h1
      rw [hi] at h2 ⊢
      rw [Int.toNat_natCast]
      unfold rightCut
      rw [end_right]
      have hle := rightEnd_le (s.extract i s.size)
      rw [Lib.tail_size] at hle
      have hlen : (goTrimRight (s.extract i s.size)).data.toList.length = rightEnd (s.extract i s.size) := by
        unfold goTrimRight
        rw [extract_data, List.drop_zero, Nat.sub_zero, List.length_take, ← size_eq, Lib.tail_size]
        omega
      refine .inr ⟨b, off + i, cap - i, by rw [hlen], by rw [hlen]; omega, ?_⟩
      intro j hj
      rw [hlen] at hj
      have e : (goTrimRight (s.extract i s.size)).data.toList.getD j 0 = s.data.toList.getD (i + j) 0 := by
        unfold goTrimRight
        rw [extract_data, List.drop_zero, Nat.sub_zero, getD_takeU _ _ _ hj, extract_data, getD_takeU _ _ _ (by omega), getD_dropU]
      rw [e, Nat.add_assoc]
      exact hB (i + j) (by rw [← size_eq]; omega)

theorem trimD_nil : trimSpaceD [] = [] := rfl
/-- Where the front is settled, trimming is trimming at the end. -/
theorem trimD_right (x : UInt8) (t : List UInt8) (h : isSp x = false) (ha : x.toNat < 128) : trimSpaceD (x :: t) = trimRightD (x :: t).length (x :: t) := by
  unfold trimSpaceD
  rw [List.length_cons, left_stop _ x t h ha]

theorem ba_list (l : List UInt8) : (⟨l.toArray⟩ : ByteArray).data.toList = l := by simp
theorem ba_size (l : List UInt8) : (⟨l.toArray⟩ : ByteArray).size = l.length := by rw [size_eq, ba_list]

/-- The tables that bytes.TrimSpace reads. -/
def Tabs (w : World) : Prop :=
  (∀ q : Nat, q < 256 → w.cell? ⟨0, q, none⟩ = some (.int .u8 (if isSp (UInt8.ofNat q) then 1 else 0))) ∧ Utf8Tabs 4 5 w ∧ WhiteTab 1 w
theorem Tabs.below {w w' : World} (h : Tabs w) (hb : Below w.heap.size w w') : Tabs w' :=
  ⟨fun q hq => (hb.cell (p := ⟨0, q, none⟩) (Lib.lt_of_cell (h.1 q hq))).trans (h.1 q hq), Utf8Tabs_below h.2.1 hb, WhiteTab_below h.2.2 hb⟩
theorem HasB.below {w w' : World} {b off : Nat} {l : List UInt8} (h : HasB w b off l) (hb : Below w.heap.size w w') : HasB w' b off l :=
  fun j hj => (hb.cell (p := ⟨b, off + j, none⟩) (Lib.lt_of_cell (h j hj))).trans (h j hj)
theorem SliceB.below {w w' : World} {v : Value} {l : List UInt8} (h : SliceB w v l) (hb : Below w.heap.size w w') : SliceB w' v l := by
  rcases h with h | ⟨b, o, c, h1, h2, h3⟩
  · exact .inl h
  · exact .inr ⟨b, o, c, h1, h2, h3.below hb⟩

theorem space_pays (w : World) (h : WhiteTab 1 w) : PredGrows Tryd.prog 21 #[] isSpaceR w := by
  intro W x hx hb
  have h1 := WhiteTab_below h hb
  have := Any.unicode_IsSpace_any Tryd.lays199 (x : Int) W (by omega) (by omega) h1
  rw [isSpaceZ_nat] at this
  exact this

theorem trimFunc_any (b off cap : Nat) (l : List UInt8) (w : World) (hcap : l.length ≤ cap) (hs : l.length ≤ 1099511627776) (hB : HasB w b off l) (hT : Tabs w) :
    Calls Tryd.prog 20 #[.slice (some ⟨b, off, none⟩) l.length cap, .func (.func 21) #[] #[]] w fun e w' => (∃ v, e = .returned v ∧ SliceB w' v (trimSpaceD l)) ∧ Below w.heap.size w w' := by
  have hB' : BytesAt ⟨l.toArray⟩ b off w := by
    intro j hj
    rw [ba_size] at hj
    rw [← getD_at, ba_list]
    exact hB j hj
  have := Any7.bytes_TrimFunc Tryd.lays42 21 #[] (enters_of Tryd.func21 (by kernel_rfl) rfl) isSpaceR ⟨l.toArray⟩ b off cap w (by rw [ba_size]; exact hcap) (by rw [ba_size]; omega) hB' hT.2.1 (space_pays w hT.2.2)
  rw [ba_size] at this
  refine this.mono fun e w' ⟨h1, h2⟩ => ⟨⟨_, h1, ?_⟩, h2⟩
  have hv := trimCut_view ⟨l.toArray⟩ b off cap w (by rw [ba_size]; exact hcap) (by rw [ba_list]; exact hB)
  rw [ba_list] at hv
  exact hv.below h2
end Go.Proofs.Qxb6602621aDoor
