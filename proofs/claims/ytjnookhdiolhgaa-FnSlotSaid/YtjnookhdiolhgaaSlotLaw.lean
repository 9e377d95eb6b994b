/- The reference's slots: what spec's Key, crc and Slot answer is what the package's do. -/
import Derived.Test.YtjnookhdiolhgaaSlot
import Derived.Test.YtjnookhdiolhgaaPspecSlot
namespace Go.Proofs.Ytjnookhdiolhgaa
open Go.RowKit
open PAll
open Go.Proofs.YtjnookhdiolhgaaW.PrintWords (bt bt_at Drawn0)

theorem size_toList (s : ByteArray) : s.data.toList.length = s.size := by rw [Array.length_toList]; rfl
theorem drop_at (s : ByteArray) (i : Nat) (h : i < s.size) : s.data.toList.drop i = s[i] :: s.data.toList.drop (i + 1) := by
  rw [List.drop_eq_getElem_cons (by rw [size_toList]; exact h)]
  rfl
theorem bt_byte (s : ByteArray) (i : Nat) (h : i < s.size) (c : Nat) (hc : c < 256) : (bt s (i : Int) = (c : Int)) ↔ (s[i] == UInt8.ofNat c) = true := by
  rw [bt_nat s i h, beq_iff_eq]
  constructor
  · intro e
    apply UInt8.toNat_inj.1
    rw [UInt8.toNat_ofNat']
    omega
  · intro e
    rw [e, UInt8.toNat_ofNat']
    omega

theorem and_bit (c n : Nat) : c &&& 2 ^ n = (c.testBit n).toNat * 2 ^ n := by
  apply Nat.eq_of_testBit_eq
  intro i
  rw [Nat.testBit_and, Nat.testBit_two_pow]
  by_cases h : n = i
  · subst h
    cases hb : c.testBit n <;> simp [Nat.testBit_two_pow_self]
  · cases hb : c.testBit n <;> simp [h]
theorem crc_step (c : Nat) (hc : c < 65536) :
    (bits .and .u16 (c : Int) 32768 = 0 → IntKind.u16.wrap ((c : Int) * 2) = (Crc.step c : Int)) ∧ (¬ bits .and .u16 (c : Int) 32768 = 0 → bits .xor .u16 (IntKind.u16.wrap ((c : Int) * 2)) 4129 = (Crc.step c : Int)) := by
  have h := u16_and_nat c 32768 hc (by decide)
  rw [show (32768 : Nat) = 2 ^ 15 from rfl, and_bit] at h
  have hw : IntKind.u16.wrap ((c : Int) * 2) = ((c * 2 % 65536 : Nat) : Int) := by rw [IntKind.wrap_u16]; omega
  have hx := u16_xor_nat (c * 2 % 65536) 4129 (Nat.mod_lt _ (by decide)) (by decide)
  have e : bits .and .u16 (c : Int) 32768 = bits .and .u16 (c : Int) ((2 ^ 15 : Nat) : Int) := rfl
  unfold Crc.step
  rw [e, h, hw]
  constructor
  · intro h0
    cases hb : c.testBit 15 with
    | false => simp
    | true => rw [hb] at h0; simp at h0
  · intro h0
    cases hb : c.testBit 15 with
    | true => simp only [if_true]; exact hx
    | false => rw [hb] at h0; simp at h0
theorem crc_round (s : ByteArray) (k c : Nat) (hc : c < 65536) (S I : Int) (m : Nat) (hm : m < 8) : spec_crc.l1 (k + 1) s (c : Int) S I (m : Int) = spec_crc.l1 k s (Crc.step c : Int) S I ((m + 1 : Nat) : Int) := by
  have e : wrap64 ((m : Int) + 1) = ((m + 1 : Nat) : Int) := by unfold wrap64; omega
  have h := crc_step c hc
  rw [spec_crc.l1, if_pos (by omega), e]
  by_cases h0 : bits .and .u16 (c : Int) 32768 = 0
  · rw [if_pos h0, h.1 h0]
  · rw [if_neg h0, h.2 h0]
theorem crc_byte (s : ByteArray) (k c : Nat) (hc : c < 65536) (S I : Int) : spec_crc.l1 (k + 9) s (c : Int) S I 0 = spec_crc.l0 k s (Crc.step8 c : Int) S (wrap64 (I + 1)) := by
  have h0 := crc_round s (k + 8) c hc S I 0 (by decide)
  have h1 := crc_round s (k + 7) _ (Crc.step_lt c) S I 1 (by decide)
  have h2 := crc_round s (k + 6) _ (Crc.step_lt (Crc.step c)) S I 2 (by decide)
  have h3 := crc_round s (k + 5) _ (Crc.step_lt (Crc.step (Crc.step c))) S I 3 (by decide)
  have h4 := crc_round s (k + 4) _ (Crc.step_lt (Crc.step (Crc.step (Crc.step c)))) S I 4 (by decide)
  have h5 := crc_round s (k + 3) _ (Crc.step_lt (Crc.step (Crc.step (Crc.step (Crc.step c))))) S I 5 (by decide)
  have h6 := crc_round s (k + 2) _ (Crc.step_lt (Crc.step (Crc.step (Crc.step (Crc.step (Crc.step c)))))) S I 6 (by decide)
  have h7 := crc_round s (k + 1) _ (Crc.step_lt (Crc.step (Crc.step (Crc.step (Crc.step (Crc.step (Crc.step c))))))) S I 7 (by decide)
  have e0 : ((0 : Nat) : Int) = 0 := rfl
  rw [e0] at h0
  rw [h0, h1, h2, h3, h4, h5, h6, h7, spec_crc.l1, if_neg (by decide)]
  rfl
theorem crc_from (s : ByteArray) (hs : s.size ≤ 140737488351232) (d : Nat) : ∀ (k i c : Nat), s.size - i = d → i ≤ s.size → 10 * d < k → c < 65536 →
    spec_crc.l0 k s (c : Int) (s.size : Int) (i : Int) = some (Crc.crcL c (s.data.toList.drop i) : Int) := by
  induction d with
  | zero =>
    intro k i c hd hi hk hc
    obtain ⟨k, rfl⟩ : ∃ m, k = m + 1 := ⟨k - 1, by omega⟩
    rw [spec_crc.l0, if_neg (by omega), List.drop_eq_nil_of_le (by rw [size_toList]; omega)]
    rfl
  | succ d ih =>
    intro k i c hd hi hk hc
    obtain ⟨k, rfl⟩ : ∃ m, k = m + 10 := ⟨k - 10, by omega⟩
    have hlt : i < s.size := by omega
    have hb := UInt8.toNat_lt s[i]
    rw [spec_crc.l0, if_pos (by omega), if_pos (by omega), if_pos (by omega), bt_nat s i hlt]
    have e1 : IntKind.u16.wrap ((s[i].toNat : Nat) : Int) = ((s[i].toNat : Nat) : Int) := IntWalk.u16_in _ (by omega)
    have e2 : IntKind.u16.wrap (((s[i].toNat : Nat) : Int) * 256) = ((s[i].toNat * 256 : Nat) : Int) := (IntWalk.u16_in _ (by omega)).trans (by omega)
    have e3 : wrap64 ((i : Int) + 1) = ((i + 1 : Nat) : Int) := by unfold wrap64; omega
    have hx : c ^^^ (s[i].toNat * 256) < 65536 := Nat.xor_lt_two_pow (n := 16) hc (by omega)
    rw [e1, e2, u16_xor_nat _ _ hc (by omega), crc_byte s k _ hx, e3, ih k (i + 1) _ (by omega) (by omega) (by omega) (Crc.step8_lt _), drop_at s i hlt, Crc.crcL_cons]
    rfl
theorem crc_spec (s : ByteArray) (hs : s.size ≤ 140737488351232) (k : Nat) (hk : 10 * s.size < k) : spec_crc.f k s = some (Crc.crcL 0 s.data.toList : Int) :=
  crc_from s hs s.size k 0 0 (by omega) (by omega) hk (by decide)

/-- The inner search of tag: the first closing brace from x on. -/
theorem tag_inner (s : ByteArray) (hs : s.size ≤ 140737488351232) (i : Nat) (d : Nat) : ∀ (k x : Nat), s.size - x = d → i + 1 ≤ x → x ≤ s.size → d < k →
    spec_tag.l1 k s (i : Int) (x : Int) = some (if Lib.indexByte (s.data.toList.drop x) 125 = -1 then (⟨#[]⟩, false) else (s.extract (i + 1) (x + (Lib.indexByte (s.data.toList.drop x) 125).toNat), decide (i + 1 < x + (Lib.indexByte (s.data.toList.drop x) 125).toNat))) := by
  have ei : wrap64 ((i : Int) + 1) = ((i + 1 : Nat) : Int) ∨ s.size < i + 1 := by
    by_cases h : i + 1 ≤ s.size
    · exact .inl (by unfold wrap64; omega)
    · exact .inr (by omega)
  induction d with
  | zero =>
    intro k x hd hix hx hk
    obtain ⟨k, rfl⟩ : ∃ m, k = m + 1 := ⟨k - 1, by omega⟩
    rw [spec_tag.l1, if_neg (by omega), List.drop_eq_nil_of_le (by rw [size_toList]; omega)]
    rfl
  | succ d ih =>
    intro k x hd hix hx hk
    obtain ⟨k, rfl⟩ : ∃ m, k = m + 1 := ⟨k - 1, by omega⟩
    have hlt : x < s.size := by omega
    have e1 : wrap64 ((i : Int) + 1) = ((i + 1 : Nat) : Int) := by unfold wrap64; omega
    have e2 : wrap64 ((x : Int) + 1) = ((x + 1 : Nat) : Int) := by unfold wrap64; omega
    have hbt : (bt s (x : Int) = 125) ↔ (s[x] == (125 : UInt8)) = true := bt_byte s x hlt 125 (by decide)
    rw [spec_tag.l1, if_pos (by omega), if_pos (by omega), drop_at s x hlt]
    by_cases hb : (s[x] == (125 : UInt8)) = true
    · rw [if_pos (hbt.2 hb), e1, if_pos (by omega), if_pos (by omega), if_pos (by omega)]
      simp only [Lib.indexByte, hb, if_true]
      rw [if_neg (by decide)]
      congr 2
      simp only [gt_iff_lt, Int.ofNat_lt, Int.toNat_zero, Nat.add_zero]
    · rw [if_neg (fun h => hb (hbt.1 h)), e2, ih k (x + 1) (by omega) (by omega) (by omega) (by omega)]
      have hb' : (s[x] == (125 : UInt8)) = false := by simpa using hb
      have hge := Lib.indexByte_ge (s.data.toList.drop (x + 1)) 125
      simp only [Lib.indexByte, hb', Bool.false_eq_true, if_false]
      by_cases hn : Lib.indexByte (s.data.toList.drop (x + 1)) 125 = -1
      · rw [if_pos hn, if_pos (by rw [hn]; rfl)]
      · have hn' : (Lib.indexByte (s.data.toList.drop (x + 1)) 125 == -1) = false := by simpa using hn
        simp only [hn', Bool.false_eq_true, if_false]
        rw [if_neg hn, if_neg (by omega)]
        have e3 : x + 1 + (Lib.indexByte (s.data.toList.drop (x + 1)) 125).toNat = x + (Lib.indexByte (s.data.toList.drop (x + 1)) 125 + 1).toNat := by omega
        rw [e3]
/-- The outer search: the first opening brace from x on. -/
theorem tag_outer (s : ByteArray) (hs : s.size ≤ 140737488351232) (d : Nat) : ∀ (k x : Nat), s.size - x = d → x ≤ s.size → d + 1 < k →
    spec_tag.l0 k s (s.size : Int) (x : Int) = (if Lib.indexByte (s.data.toList.drop x) 123 = -1 then some (⟨#[]⟩, false) else
      (let i := x + (Lib.indexByte (s.data.toList.drop x) 123).toNat
       some (if Lib.indexByte (s.data.toList.drop (i + 1)) 125 = -1 then (⟨#[]⟩, false) else (s.extract (i + 1) (i + 1 + (Lib.indexByte (s.data.toList.drop (i + 1)) 125).toNat), decide (i + 1 < i + 1 + (Lib.indexByte (s.data.toList.drop (i + 1)) 125).toNat))))) := by
  induction d with
  | zero =>
    intro k x hd hx hk
    obtain ⟨k, rfl⟩ : ∃ m, k = m + 1 := ⟨k - 1, by omega⟩
    rw [spec_tag.l0, if_neg (by omega), List.drop_eq_nil_of_le (by rw [size_toList]; omega)]
    rfl
  | succ d ih =>
    intro k x hd hx hk
    obtain ⟨k, rfl⟩ : ∃ m, k = m + 1 := ⟨k - 1, by omega⟩
    have hlt : x < s.size := by omega
    have e2 : wrap64 ((x : Int) + 1) = ((x + 1 : Nat) : Int) := by unfold wrap64; omega
    have hbt : (bt s (x : Int) = 123) ↔ (s[x] == (123 : UInt8)) = true := bt_byte s x hlt 123 (by decide)
    rw [spec_tag.l0, if_pos (by omega), if_pos (by omega), if_pos (by omega), e2]
    by_cases hb : (s[x] == (123 : UInt8)) = true
    · rw [if_pos (hbt.2 hb), tag_inner s hs x (s.size - (x + 1)) k (x + 1) rfl (by omega) (by omega) (by omega)]
      have h0 : Lib.indexByte (s.data.toList.drop x) 123 = 0 := by rw [drop_at s x hlt]; simp only [Lib.indexByte, hb, if_true]
      have h01 : ¬ (0 : Int) = -1 := by decide
      rw [h0, if_neg h01]
      simp only [Int.toNat_zero, Nat.add_zero]
    · rw [if_neg (fun h => hb (hbt.1 h)), ih k (x + 1) (by omega) (by omega) (by omega)]
      have hb' : (s[x] == (123 : UInt8)) = false := by simpa using hb
      have hge := Lib.indexByte_ge (s.data.toList.drop (x + 1)) 123
      have hx2 : Lib.indexByte (s.data.toList.drop x) 123 = if Lib.indexByte (s.data.toList.drop (x + 1)) 123 == -1 then -1 else Lib.indexByte (s.data.toList.drop (x + 1)) 123 + 1 := by
        rw [drop_at s x hlt]
        simp only [Lib.indexByte, hb', Bool.false_eq_true, if_false]
      rw [hx2]
      by_cases hn : Lib.indexByte (s.data.toList.drop (x + 1)) 123 = -1
      · rw [if_pos hn, hn]
        rfl
      · have hn' : (Lib.indexByte (s.data.toList.drop (x + 1)) 123 == -1) = false := by simpa using hn
        simp only [hn', Bool.false_eq_true, if_false]
        have hx3 : ¬ Lib.indexByte (s.data.toList.drop (x + 1)) 123 + 1 = -1 := by omega
        rw [if_neg hn, if_neg hx3]
        have e3 : x + 1 + (Lib.indexByte (s.data.toList.drop (x + 1)) 123).toNat = x + (Lib.indexByte (s.data.toList.drop (x + 1)) 123 + 1).toNat := by omega
        rw [e3]
/-- Whether a key has a tag. -/
def hasTag (s : ByteArray) : Bool :=
  if -1 < Lib.indexByte s.data.toList 123 then decide (0 < Lib.indexByte (s.extract ((Lib.indexByte s.data.toList 123).toNat + 1) s.size).data.toList 125) else false
theorem tag_spec (s : ByteArray) (hs : s.size ≤ 140737488351232) (k : Nat) (hk : s.size + 1 < k) : ∃ t, spec_tag.f k s = some (t, hasTag s) ∧ (hasTag s = true → t = keyB s) ∧ (hasTag s = false → keyB s = s) := by
  have h := tag_outer s hs s.size k 0 (by omega) (by omega) hk
  rw [List.drop_zero] at h
  simp only [Nat.zero_add] at h
  unfold spec_tag.f hasTag keyB
  have hge := Lib.indexByte_ge s.data.toList 123
  have hed : ∀ a, (s.extract a s.size).data.toList = s.data.toList.drop a := fun a => by rw [Lib.extract_data, List.take_of_length_le (by rw [List.length_drop, size_toList]; omega)]
  have e0 : ((0 : Nat) : Int) = 0 := rfl
  rw [e0] at h
  by_cases hn : Lib.indexByte s.data.toList 123 = -1
  · rw [if_pos hn] at h
    rw [h]
    have hi : ¬ -1 < Lib.indexByte s.data.toList 123 := by omega
    simp only [if_neg hi]
    exact ⟨_, rfl, fun h => absurd h (by decide), fun _ => by first | rfl | trivial⟩
  · rw [if_neg hn] at h
    rw [h]
    have hi : -1 < Lib.indexByte s.data.toList 123 := by omega
    simp only [if_pos hi, hed]
    clear h hn hi hge
    generalize (Lib.indexByte s.data.toList 123).toNat = i
    have hge2 := Lib.indexByte_ge (s.data.toList.drop (i + 1)) 125
    by_cases hm : Lib.indexByte (s.data.toList.drop (i + 1)) 125 = -1
    · have hd : ¬ 0 < Lib.indexByte (s.data.toList.drop (i + 1)) 125 := by omega
      simp only [if_pos hm, if_neg hd]
      have hd2 : decide (0 < Lib.indexByte (s.data.toList.drop (i + 1)) 125) = false := decide_eq_false hd
      rw [hd2]
      exact ⟨_, rfl, fun h => absurd h (by decide), fun _ => by first | rfl | trivial⟩
    · rw [if_neg hm]
      have hd : decide (i + 1 < i + 1 + (Lib.indexByte (s.data.toList.drop (i + 1)) 125).toNat) = decide (0 < Lib.indexByte (s.data.toList.drop (i + 1)) 125) := by
        rw [decide_eq_decide]; omega
      rw [hd]
      refine ⟨_, rfl, fun h => ?_, fun h => ?_⟩
      · have h' := of_decide_eq_true h
        rw [if_pos h']
        congr 1
        omega
      · have h' := of_decide_eq_false h
        rw [if_neg h']
theorem Key_spec (s : ByteArray) (hs : s.size ≤ 140737488351232) (k : Nat) (hk : s.size + 1 < k) : spec_Key.f k s = some (keyB s) := by
  obtain ⟨t, h1, h2, h3⟩ := tag_spec s hs k hk
  unfold spec_Key.f
  rw [h1]
  simp only [Option.bind_some]
  cases hh : hasTag s with
  | true => rw [if_pos rfl, h2 hh]
  | false => rw [if_neg (by decide), h3 hh]
theorem Slot_spec (s : ByteArray) (hs : s.size ≤ 140737488351232) (hne : ¬ s.toList = []) (k : Nat) (hk : 10 * s.size + 2 < k) : spec_Slot.f k s = some ((slotN s : Int), 1) := by
  have hz := keyB_size s
  have hl := Crc.crcL_lt 0 (by decide) (keyB s).data.toList
  unfold spec_Slot.f slotN
  rw [if_neg hne, Key_spec s hs k (by omega), if_neg (by rw [← ByteArray.toList_eq]; exact hne)]
  simp only [Option.bind_some]
  rw [crc_spec (keyB s) (by omega) k (by omega)]
  simp only [Option.bind_some]
  have e : wrap64 (Crc.crcL 0 (keyB s).data.toList : Int) = (Crc.crcL 0 (keyB s).data.toList : Int) := by unfold wrap64; omega
  rw [e]
  rfl
theorem slotN_lt (s : ByteArray) : slotN s < 16384 := by
  unfold slotN
  split
  · decide
  · exact Nat.mod_lt _ (by decide)
end Go.Proofs.Ytjnookhdiolhgaa
