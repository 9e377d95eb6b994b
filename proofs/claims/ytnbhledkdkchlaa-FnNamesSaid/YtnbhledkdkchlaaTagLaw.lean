/- The reference's tags: what spec's Key and Present answer is what the package's do. -/
import Derived.Test.YtnbhledkdkchlaaSlot
import Derived.Test.YtnbhledkdkchlaaPspecKey
import Derived.Test.YtnbhledkdkchlaaPspecPresent
namespace Go.Proofs.Ytnbhledkdkchlaa
open Go.RowKit
open PAll
open Go.Proofs.YtnbhledkdkchlaaW.PrintWords (bt bt_at Drawn0)

theorem size_toList (s : ByteArray) : s.data.toList.length = s.size := by rw [Array.length_toList]; rfl
theorem drop_at (s : ByteArray) (i : Nat) (h : i < s.size) : s.data.toList.drop i = s[i] :: s.data.toList.drop (i + 1) := by
  rw [List.drop_eq_getElem_cons (by rw [size_toList]; exact h)]
  rfl
theorem bt_byte (s : ByteArray) (i : Nat) (h : i < s.size) (c : Nat) (hc : c < 256) : (bt s (i : Int) = (c : Int)) ↔ (s[i] == UInt8.ofNat c) = true := by
  rw [bt_nat s i h, beq_iff_eq]
  constructor
  · intro e
    apply UInt8.toNat_inj.1
    rw [UInt8.toNat_ofNat']
    omega
  · intro e
    rw [e, UInt8.toNat_ofNat']
    omega

/-- The inner search of tag: the first closing brace from x on. -/
theorem tag_inner (s : ByteArray) (hs : s.size ≤ 140737488351232) (i : Nat) (d : Nat) : ∀ (k x : Nat), s.size - x = d → i + 1 ≤ x → x ≤ s.size → d < k →
    spec_tag.l1 k s (i : Int) (x : Int) = some (if Lib.indexByte (s.data.toList.drop x) 125 = -1 then (⟨#[]⟩, false) else (s.extract (i + 1) (x + (Lib.indexByte (s.data.toList.drop x) 125).toNat), decide (i + 1 < x + (Lib.indexByte (s.data.toList.drop x) 125).toNat))) := by
  have ei : wrap64 ((i : Int) + 1) = ((i + 1 : Nat) : Int) ∨ s.size < i + 1 := by
    by_cases h : i + 1 ≤ s.size
    · exact .inl (by unfold wrap64; omega)
    · exact .inr (by omega)
  induction d with
  | zero =>
    intro k x hd hix hx hk
    obtain ⟨k, rfl⟩ : ∃ m, k = m + 1 := ⟨k - 1, by omega⟩
    rw [spec_tag.l1, if_neg (by omega), List.drop_eq_nil_of_le (by rw [size_toList]; omega)]
    rfl
  | succ d ih =>
    intro k x hd hix hx hk
    obtain ⟨k, rfl⟩ : ∃ m, k = m + 1 := ⟨k - 1, by omega⟩
    have hlt : x < s.size := by omega
    have e1 : wrap64 ((i : Int) + 1) = ((i + 1 : Nat) : Int) := by unfold wrap64; omega
    have e2 : wrap64 ((x : Int) + 1) = ((x + 1 : Nat) : Int) := by unfold wrap64; omega
    have hbt : (bt s (x : Int) = 125) ↔ (s[x] == (125 : UInt8)) = true := bt_byte s x hlt 125 (by decide)
    rw [spec_tag.l1, if_pos (by omega), if_pos (by omega), drop_at s x hlt]
    by_cases hb : (s[x] == (125 : UInt8)) = true
    · rw [if_pos (hbt.2 hb), e1, if_pos (by omega), if_pos (by omega), if_pos (by omega)]
      simp only [Lib.indexByte, hb, if_true]
      rw [if_neg (by decide)]
      congr 2
      simp only [gt_iff_lt, Int.ofNat_lt, Int.toNat_zero, Nat.add_zero]
    · rw [if_neg (fun h => hb (hbt.1 h)), e2, ih k (x + 1) (by omega) (by omega) (by omega) (by omega)]
      have hb' : (s[x] == (125 : UInt8)) = false := by simpa using hb
      have hge := Lib.indexByte_ge (s.data.toList.drop (x + 1)) 125
      simp only [Lib.indexByte, hb', Bool.false_eq_true, if_false]
      by_cases hn : Lib.indexByte (s.data.toList.drop (x + 1)) 125 = -1
      · rw [if_pos hn, if_pos (by rw [hn]; rfl)]
      · have hn' : (Lib.indexByte (s.data.toList.drop (x + 1)) 125 == -1) = false := by simpa using hn
        simp only [hn', Bool.false_eq_true, if_false]
        rw [if_neg hn, if_neg (by omega)]
        have e3 : x + 1 + (Lib.indexByte (s.data.toList.drop (x + 1)) 125).toNat = x + (Lib.indexByte (s.data.toList.drop (x + 1)) 125 + 1).toNat := by omega
        rw [e3]
/-- The outer search: the first opening brace from x on. -/
theorem tag_outer (s : ByteArray) (hs : s.size ≤ 140737488351232) (d : Nat) : ∀ (k x : Nat), s.size - x = d → x ≤ s.size → d + 1 < k →
    spec_tag.l0 k s (s.size : Int) (x : Int) = (if Lib.indexByte (s.data.toList.drop x) 123 = -1 then some (⟨#[]⟩, false) else
      (let i := x + (Lib.indexByte (s.data.toList.drop x) 123).toNat
       some (if Lib.indexByte (s.data.toList.drop (i + 1)) 125 = -1 then (⟨#[]⟩, false) else (s.extract (i + 1) (i + 1 + (Lib.indexByte (s.data.toList.drop (i + 1)) 125).toNat), decide (i + 1 < i + 1 + (Lib.indexByte (s.data.toList.drop (i + 1)) 125).toNat))))) := by
  induction d with
  | zero =>
    intro k x hd hx hk
    obtain ⟨k, rfl⟩ : ∃ m, k = m + 1 := ⟨k - 1, by omega⟩
    rw [spec_tag.l0, if_neg (by omega), List.drop_eq_nil_of_le (by rw [size_toList]; omega)]
    rfl
  | succ d ih =>
    intro k x hd hx hk
    obtain ⟨k, rfl⟩ : ∃ m, k = m + 1 := ⟨k - 1, by omega⟩
    have hlt : x < s.size := by omega
    have e2 : wrap64 ((x : Int) + 1) = ((x + 1 : Nat) : Int) := by unfold wrap64; omega
    have hbt : (bt s (x : Int) = 123) ↔ (s[x] == (123 : UInt8)) = true := bt_byte s x hlt 123 (by decide)
    rw [spec_tag.l0, if_pos (by omega), if_pos (by omega), if_pos (by omega), e2]
    by_cases hb : (s[x] == (123 : UInt8)) = true
    · rw [if_pos (hbt.2 hb), tag_inner s hs x (s.size - (x + 1)) k (x + 1) rfl (by omega) (by omega) (by omega)]
      have h0 : Lib.indexByte (s.data.toList.drop x) 123 = 0 := by rw [drop_at s x hlt]; simp only [Lib.indexByte, hb, if_true]
      have h01 : ¬ (0 : Int) = -1 := by decide
      rw [h0, if_neg h01]
      simp only [Int.toNat_zero, Nat.add_zero]
    · rw [if_neg (fun h => hb (hbt.1 h)), ih k (x + 1) (by omega) (by omega) (by omega)]
      have hb' : (s[x] == (123 : UInt8)) = false := by simpa using hb
      have hge := Lib.indexByte_ge (s.data.toList.drop (x + 1)) 123
      have hx2 : Lib.indexByte (s.data.toList.drop x) 123 = if Lib.indexByte (s.data.toList.drop (x + 1)) 123 == -1 then -1 else Lib.indexByte (s.data.toList.drop (x + 1)) 123 + 1 := by
        rw [drop_at s x hlt]
        simp only [Lib.indexByte, hb', Bool.false_eq_true, if_false]
      rw [hx2]
      by_cases hn : Lib.indexByte (s.data.toList.drop (x + 1)) 123 = -1
      · rw [if_pos hn, hn]
        rfl
      · have hn' : (Lib.indexByte (s.data.toList.drop (x + 1)) 123 == -1) = false := by simpa using hn
        simp only [hn', Bool.false_eq_true, if_false]
        have hx3 : ¬ Lib.indexByte (s.data.toList.drop (x + 1)) 123 + 1 = -1 := by omega
        rw [if_neg hn, if_neg hx3]
        have e3 : x + 1 + (Lib.indexByte (s.data.toList.drop (x + 1)) 123).toNat = x + (Lib.indexByte (s.data.toList.drop (x + 1)) 123 + 1).toNat := by omega
        rw [e3]
/-- Whether a key has a tag. -/
def hasTag (s : ByteArray) : Bool :=
  if -1 < Lib.indexByte s.data.toList 123 then decide (0 < Lib.indexByte (s.extract ((Lib.indexByte s.data.toList 123).toNat + 1) s.size).data.toList 125) else false
theorem tag_spec (s : ByteArray) (hs : s.size ≤ 140737488351232) (k : Nat) (hk : s.size + 1 < k) : ∃ t, spec_tag.f k s = some (t, hasTag s) ∧ (hasTag s = true → t = keyB s) ∧ (hasTag s = false → keyB s = s) := by
  have h := tag_outer s hs s.size k 0 (by omega) (by omega) hk
  rw [List.drop_zero] at h
  simp only [Nat.zero_add] at h
  unfold spec_tag.f hasTag keyB
  have hge := Lib.indexByte_ge s.data.toList 123
  have hed : ∀ a, (s.extract a s.size).data.toList = s.data.toList.drop a := fun a => by rw [Lib.extract_data, List.take_of_length_le (by rw [List.length_drop, size_toList]; omega)]
  have e0 : ((0 : Nat) : Int) = 0 := rfl
  rw [e0] at h
  by_cases hn : Lib.indexByte s.data.toList 123 = -1
  · rw [if_pos hn] at h
    rw [h]
    have hi : ¬ -1 < Lib.indexByte s.data.toList 123 := by omega
    simp only [if_neg hi]
    exact ⟨_, rfl, fun h => absurd h (by decide), fun _ => by first | rfl | trivial⟩
  · rw [if_neg hn] at h
    rw [h]
    have hi : -1 < Lib.indexByte s.data.toList 123 := by omega
    simp only [if_pos hi, hed]
    clear h hn hi hge
    generalize (Lib.indexByte s.data.toList 123).toNat = i
    have hge2 := Lib.indexByte_ge (s.data.toList.drop (i + 1)) 125
    by_cases hm : Lib.indexByte (s.data.toList.drop (i + 1)) 125 = -1
    · have hd : ¬ 0 < Lib.indexByte (s.data.toList.drop (i + 1)) 125 := by omega
      simp only [if_pos hm, if_neg hd]
      have hd2 : decide (0 < Lib.indexByte (s.data.toList.drop (i + 1)) 125) = false := decide_eq_false hd
      rw [hd2]
      exact ⟨_, rfl, fun h => absurd h (by decide), fun _ => by first | rfl | trivial⟩
    · rw [if_neg hm]
      have hd : decide (i + 1 < i + 1 + (Lib.indexByte (s.data.toList.drop (i + 1)) 125).toNat) = decide (0 < Lib.indexByte (s.data.toList.drop (i + 1)) 125) := by
        rw [decide_eq_decide]; omega
      rw [hd]
      refine ⟨_, rfl, fun h => ?_, fun h => ?_⟩
      · have h' := of_decide_eq_true h
        rw [if_pos h']
        congr 1
        omega
      · have h' := of_decide_eq_false h
        rw [if_neg h']
theorem Key_spec (s : ByteArray) (hs : s.size ≤ 140737488351232) (k : Nat) (hk : s.size + 1 < k) : spec_Key.f k s = some (keyB s) := by
  obtain ⟨t, h1, h2, h3⟩ := tag_spec s hs k hk
  unfold spec_Key.f
  rw [h1]
  simp only [Option.bind_some]
  cases hh : hasTag s with
  | true => rw [if_pos rfl, h2 hh]
  | false => rw [if_neg (by decide), h3 hh]
theorem slotN_lt (s : ByteArray) : slotN s < 16384 := by
  unfold slotN
  split
  · decide
  · exact Nat.mod_lt _ (by decide)
theorem Present_spec (s : ByteArray) (hs : s.size ≤ 140737488351232) (k : Nat) (hk : s.size + 1 < k) : spec_Present.f k s = some (hasTag s) := by
  obtain ⟨t, h1, h2, h3⟩ := tag_spec s hs k hk
  unfold spec_Present.f
  rw [h1]
  rfl
end Go.Proofs.Ytnbhledkdkchlaa
