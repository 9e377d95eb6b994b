/- A line of an error: what the reference's and the program's searches say of texts, in lists alone. (seat r3.Z) A line of an error: what the reference says of it, in lists alone. (seat r3.Z) A line of an error: the errors in memory, their makers and methods. (seat r3.Z; printed by gen_er2.py) An error value of each type. (seat r3.Z; printed by gen_er3.py) -/
import Derived.Test.YtkogipaaioibaaaGreatPspecErrorKind
import Derived.Test.YtkogipaaioibaaaGreatPprotozzContains
import Derived.Test.YtkogipaaioibaaaGreatPstringsHasPrefix
import Derived.Test.YtkogipaaioibaaaGreatPbytealgLastIndexByteString
import Derived.Lib.Hide
import Derived.IntWalk
import Derived.Test.YtkogipaaioibaaaGreatCore
namespace Go.Proofs.YtkogipaaioibaaaGreat
set_option linter.unusedVariables false
set_option linter.unusedSimpArgs false
open Go.RowKit Go.Proofs.YtkogipaaioibaaaGreatW.PrintWords

/-- A text's bytes as a list. -/
def L (s : ByteArray) : List UInt8 := s.data.toList
theorem L_len (s : ByteArray) : (L s).length = s.size := Array.length_toList
theorem toL (s : ByteArray) : s.toList = L s := by rw [ByteArray.toList_eq]; rfl
theorem L_inj {a b : ByteArray} (h : L a = L b) : a = b := by
  cases a; cases b
  unfold L at h
  simp at h
  rw [h]
theorem L_ext (s : ByteArray) (a b : Nat) : L (s.extract a b) = ((L s).drop a).take (b - a) := by
  unfold L
  rw [ByteArray.data_extract, Array.toList_extract]
theorem bt_L (s : ByteArray) (i : Nat) (h : i < s.size) : bt s (i : Int) = (((L s)[i]'(by rw [L_len]; exact h)).toNat : Int) := by
  rw [← bt_at s i (by simpa using h)]
  rfl
/-- A text stands in another one at a place. -/
def At (p s : ByteArray) (j : Nat) : Prop := j + p.size ≤ s.size ∧ ((L s).drop j).take p.size = L p
theorem at_eq (p s : ByteArray) (j : Nat) (h : j + p.size ≤ s.size) : ((s.extract j (j + p.size)).toList = p.toList) ↔ At p s j := by
  rw [toL, toL, L_ext, Nat.add_sub_cancel_left]
  exact ⟨fun h2 => ⟨h, h2⟩, fun h2 => h2.2⟩
theorem at_take {p q s : ByteArray} {j : Nat} (h : At q s j) (hp : L p = (L q).take p.size) (hs : p.size ≤ q.size) : At p s j := by
  refine ⟨by have := h.1; omega, ?_⟩
  rw [hp, ← h.2, List.take_take]
  congr 1
  omega
theorem at_shift {p s : ByteArray} {j : Nat} (h : At p (s.extract 1 s.size) j) (h1 : 1 ≤ s.size) : At p s (j + 1) := by
  have hz : (s.extract 1 s.size).size = s.size - 1 := by rw [ByteArray.size_extract]; omega
  refine ⟨by have := h.1; omega, ?_⟩
  have h2 := h.2
  rw [L_ext, List.drop_take, List.drop_drop, List.take_take] at h2
  rw [← h2]
  have h3 := h.1
  rw [show min p.size (s.size - 1 - j) = p.size by omega, Nat.add_comm 1 j]

theorem hp_f (a p : ByteArray) : ∃ b : Bool, PAll.strings_HasPrefix.f a p = some b ∧ (b = true ↔ At p a 0) := by
  unfold PAll.strings_HasPrefix.f PAll.stringslite_HasPrefix.f
  by_cases h : (a.size : Int) ≥ (p.size : Int)
  · rw [if_pos h, if_pos (by omega), if_pos (by omega)]
    refine ⟨_, rfl, ?_⟩
    rw [beq_iff_eq, Int.toNat_natCast]
    have := at_eq p a 0 (by omega)
    rwa [Nat.zero_add] at this
  · rw [if_neg h]
    exact ⟨_, rfl, by simp [At]; omega⟩
theorem begins_f (a p : ByteArray) : ∃ b : Bool, PAll.spec_begins.f a p = some b ∧ (b = true ↔ At p a 0) := by
  unfold PAll.spec_begins.f
  by_cases h : (a.size : Int) ≥ (p.size : Int)
  · rw [if_pos h, if_pos (by omega), if_pos (by omega)]
    refine ⟨_, rfl, ?_⟩
    rw [beq_iff_eq, Int.toNat_natCast]
    have := at_eq p a 0 (by omega)
    rwa [Nat.zero_add] at this
  · rw [if_neg h]
    exact ⟨_, rfl, by simp [At]; omega⟩
theorem holds_l (s p : ByteArray) (hs : s.size ≤ 1000) (hp : p.size ≤ 1000) : ∀ (n i : Nat), i ≤ s.size + 1 → s.size + 1 ≤ n + i → ∃ b : Bool, PAll.spec_holds.l0 (n + 1) s p (i : Int) = some b ∧ (b = true ↔ ∃ j, i ≤ j ∧ At p s j) := by
  intro n
  induction n with
  | zero =>
    intro i h1 hi
    unfold PAll.spec_holds.l0
    rw [IntWalk.wrap64_in _ ⟨by omega, by omega⟩, if_neg (by omega)]
    exact ⟨_, rfl, by simp; intro j hj ha; have := ha.1; omega⟩
  | succ n ih =>
    intro i h1 hi
    unfold PAll.spec_holds.l0
    rw [IntWalk.wrap64_in ((i : Int) + (p.size : Int)) ⟨by omega, by omega⟩]
    by_cases hle : i + p.size ≤ s.size
    · rw [if_pos (by omega), if_pos (by omega), if_pos (by omega), Int.toNat_natCast, show ((i : Int) + (p.size : Int)).toNat = i + p.size by omega]
      by_cases he : (s.extract i (i + p.size)).toList = p.toList
      · rw [if_pos he]
        exact ⟨_, rfl, by simp; exact ⟨i, Nat.le_refl _, (at_eq p s i hle).1 he⟩⟩
      · rw [if_neg he, IntWalk.wrap64_in ((i : Int) + 1) ⟨by omega, by omega⟩]
        obtain ⟨b, hb, hiff⟩ := ih (i + 1) (by omega) (by omega)
        refine ⟨b, hb, hiff.trans ⟨fun ⟨j, hj, ha⟩ => ⟨j, by omega, ha⟩, fun ⟨j, hj, ha⟩ => ?_⟩⟩
        by_cases hji : j = i
        · subst hji
          exact absurd ((at_eq p s j hle).2 ha) he
        · exact ⟨j, by omega, ha⟩
    · rw [if_neg (by omega)]
      exact ⟨_, rfl, by simp; intro j hj ha; have := ha.1; omega⟩
theorem holds_f (s p : ByteArray) (hs : s.size ≤ 1000) (hp : p.size ≤ 1000) (k : Nat) (hk : 1500 ≤ k) : ∃ b : Bool, PAll.spec_holds.f k s p = some b ∧ (b = true ↔ ∃ j, At p s j) := by
  obtain ⟨n, rfl⟩ : ∃ n, k = n + 1 := ⟨k - 1, by omega⟩
  obtain ⟨b, hb, hi⟩ := holds_l s p hs hp n 0 (by omega) (by omega)
  exact ⟨b, hb, hi.trans ⟨fun ⟨j, _, h⟩ => ⟨j, h⟩, fun ⟨j, h⟩ => ⟨j, Nat.zero_le _, h⟩⟩⟩
theorem index_l (s p : ByteArray) (hs : s.size ≤ 1000) (hp : p.size ≤ 1000) : ∀ (n i : Nat), i ≤ s.size + 1 → s.size + 1 ≤ n + i → ∃ r : Int, PAll.proto_zzIndex.l0 (n + 1) s p (i : Int) = some r ∧ (0 ≤ r ↔ ∃ j, i ≤ j ∧ At p s j) := by
  intro n
  induction n with
  | zero =>
    intro i h1 hi
    unfold PAll.proto_zzIndex.l0
    rw [IntWalk.wrap64_in _ ⟨by omega, by omega⟩, if_neg (by omega)]
    exact ⟨_, rfl, by simp; intro j hj ha; have := ha.1; omega⟩
  | succ n ih =>
    intro i h1 hi
    unfold PAll.proto_zzIndex.l0
    rw [IntWalk.wrap64_in ((i : Int) + (p.size : Int)) ⟨by omega, by omega⟩]
    by_cases hle : i + p.size ≤ s.size
    · rw [if_pos (by omega), if_pos (by omega), if_pos (by omega), Int.toNat_natCast, show ((i : Int) + (p.size : Int)).toNat = i + p.size by omega]
      by_cases he : (s.extract i (i + p.size)).toList = p.toList
      · rw [if_pos he]
        exact ⟨_, rfl, by simp; exact ⟨i, Nat.le_refl _, (at_eq p s i hle).1 he⟩⟩
      · rw [if_neg he, IntWalk.wrap64_in ((i : Int) + 1) ⟨by omega, by omega⟩]
        obtain ⟨b, hb, hiff⟩ := ih (i + 1) (by omega) (by omega)
        refine ⟨b, hb, hiff.trans ⟨fun ⟨j, hj, ha⟩ => ⟨j, by omega, ha⟩, fun ⟨j, hj, ha⟩ => ?_⟩⟩
        by_cases hji : j = i
        · subst hji
          exact absurd ((at_eq p s j hle).2 ha) he
        · exact ⟨j, by omega, ha⟩
    · rw [if_neg (by omega)]
      exact ⟨_, rfl, by simp; intro j hj ha; have := ha.1; omega⟩
theorem contains_f (s p : ByteArray) (hs : s.size ≤ 1000) (hp : p.size ≤ 1000) : ∃ b : Bool, PAll.proto_zzContains.f 1500 s p = some b ∧ (b = true ↔ ∃ j, At p s j) := by
  obtain ⟨r, hr, hi⟩ := index_l s p hs hp 1499 0 (by omega) (by omega)
  refine ⟨decide (r ≥ 0), ?_, ?_⟩
  · unfold PAll.proto_zzContains.f PAll.proto_zzIndex.f
    rw [show (0 : Int) = ((0 : Nat) : Int) from rfl, hr]
    rfl
  · rw [decide_eq_true_iff]
    exact hi.trans ⟨fun ⟨j, _, h⟩ => ⟨j, h⟩, fun ⟨j, h⟩ => ⟨j, Nat.zero_le _, h⟩⟩
theorem inLine_l (s : ByteArray) (hs : s.size ≤ 1000) : ∀ (n i : Nat), i ≤ s.size → s.size ≤ n + i → ∃ b : Bool, PAll.spec_inLine.l0 (n + 1) s (s.size : Int) (i : Int) = some b := by
  intro n
  induction n with
  | zero =>
    intro i h1 hi
    unfold PAll.spec_inLine.l0
    rw [if_neg (by omega)]
    exact ⟨_, rfl⟩
  | succ n ih =>
    intro i h1 hi
    unfold PAll.spec_inLine.l0
    by_cases h : i < s.size
    · rw [if_pos (by omega), if_pos (by omega), if_pos (by omega)]
      split
      · exact ⟨_, rfl⟩
      · split
        · exact ⟨_, rfl⟩
        · rw [IntWalk.wrap64_in ((i : Int) + 1) ⟨by omega, by omega⟩]
          exact ih (i + 1) (by omega) (by omega)
    · rw [if_neg (by omega)]
      exact ⟨_, rfl⟩

/-- The pieces between single blanks. -/
def splitB : List UInt8 → List (List UInt8)
  | [] => [[]]
  | c :: r => if c = 32 then [] :: splitB r else match splitB r with
    | [] => [[c]]
    | h :: t => (c :: h) :: t
theorem splitB_ne (l : List UInt8) : splitB l ≠ [] := by
  cases l with
  | nil => simp [splitB]
  | cons c r =>
    unfold splitB
    split
    · simp
    · split <;> simp
theorem splitB_word (a : List UInt8) (h : (32 : UInt8) ∉ a) (r : List UInt8) : splitB (a ++ 32 :: r) = a :: splitB r := by
  induction a with
  | nil => simp [splitB]
  | cons c a ih =>
    have hc : c ≠ 32 := fun e => h (by simp [e])
    have h2 := ih (fun hm => h (by simp [hm]))
    rw [List.cons_append]
    simp only [splitB, if_neg hc, h2]
theorem splitB_last (a : List UInt8) (h : (32 : UInt8) ∉ a) : splitB a = [a] := by
  induction a with
  | nil => simp [splitB]
  | cons c a ih =>
    have hc : c ≠ 32 := fun e => h (by simp [e])
    have h2 := ih (fun hm => h (by simp [hm]))
    simp only [splitB, if_neg hc, h2]
/-- Either no blank at all, or a first word. -/
theorem splitB_cases (l : List UInt8) : (32 : UInt8) ∉ l ∨ ∃ a r, l = a ++ 32 :: r ∧ (32 : UInt8) ∉ a := by
  induction l with
  | nil => exact .inl (by simp)
  | cons c r ih =>
    by_cases hc : c = 32
    · subst hc
      exact .inr ⟨[], r, rfl, by simp⟩
    · rcases ih with h | ⟨a, r', rfl, ha⟩
      · exact .inl (by simp [h]; exact fun e => hc e.symm)
      · exact .inr ⟨c :: a, r', rfl, by simp [ha]; exact fun e => hc e.symm⟩
def ofL (l : List UInt8) : ByteArray := ⟨l.toArray⟩
theorem L_ofL (l : List UInt8) : L (ofL l) = l := by simp [L, ofL]
theorem ofL_L (s : ByteArray) : ofL (L s) = s := L_inj (L_ofL _)
theorem words_l (s : ByteArray) (hs : s.size ≤ 1000) : ∀ (n from_ i : Nat) (acc : List ByteArray), from_ ≤ i → i ≤ s.size + 1 → s.size + 1 ≤ n + i → acc.length + (s.size + 1 - i) ≤ 2000 → (∀ j, from_ ≤ j → j < i → (L s)[j]? ≠ some 32) →
    (i ≤ s.size → PAll.spec_words.l0 (n + 1) s acc (from_ : Int) (i : Int) = some (acc ++ (splitB ((L s).drop from_)).map ofL)) ∧ (i = s.size + 1 → PAll.spec_words.l0 (n + 1) s acc (from_ : Int) (i : Int) = some acc) := by
  intro n
  induction n with
  | zero =>
    intro from_ i acc h0 h1 hi ha hb
    refine ⟨fun h => by omega, fun h => ?_⟩
    unfold PAll.spec_words.l0
    rw [if_neg (by omega)]
  | succ n ih =>
    intro from_ i acc h0 h1 hi ha hb
    refine ⟨fun hle => ?_, fun h => ?_⟩
    · unfold PAll.spec_words.l0
      have hnb : (32 : UInt8) ∉ ((L s).drop from_).take (i - from_) := by
        intro hm
        obtain ⟨j, hj, he⟩ := List.mem_iff_getElem.1 hm
        rw [List.length_take, List.length_drop] at hj
        refine hb (from_ + j) (by omega) (by omega) ?_
        rw [List.getElem_take, List.getElem_drop] at he
        rw [List.getElem?_eq_getElem (by omega), he]
      have hex : s.extract from_ i = ofL (((L s).drop from_).take (i - from_)) := L_inj (by rw [L_ext, L_ofL])
      rw [if_pos (by omega)]
      by_cases hend : i = s.size
      · rw [if_pos (by omega), if_pos (by omega), if_pos (by omega), if_pos (by omega), IntWalk.wrap64_in ((i : Int) + 1) ⟨by omega, by omega⟩]
        have h3 := (ih (i + 1) (i + 1) (acc ++ [s.extract from_ i]) (by omega) (by omega) (by omega) (by simp; omega) (fun j h1 h2 => by omega)).2 (by omega)
        rw [Int.toNat_natCast, Int.toNat_natCast]
        have h4 : PAll.spec_words.l0 (n + 1) s (acc ++ [s.extract from_ i]) ((i : Int) + 1) ((i : Int) + 1) = some (acc ++ [s.extract from_ i]) := h3
        rw [h4, hex]
        have hl : ((L s).drop from_).take (i - from_) = (L s).drop from_ := List.take_of_length_le (by rw [List.length_drop, L_len]; omega)
        rw [hl] at hnb ⊢
        rw [splitB_last _ hnb]
        rfl
      · rw [if_neg (by omega), if_pos (by omega), if_pos (by omega)]
        have hil : i < (L s).length := by rw [L_len]; omega
        rw [bt_L s i (by omega)]
        by_cases hbl : (L s)[i] = 32
        · rw [if_pos (by rw [hbl]; rfl), if_pos (by omega), if_pos (by omega), if_pos (by omega), IntWalk.wrap64_in ((i : Int) + 1) ⟨by omega, by omega⟩]
          have h3 := (ih (i + 1) (i + 1) (acc ++ [s.extract from_ i]) (by omega) (by omega) (by omega) (by simp; omega) (fun j h1 h2 => by omega)).1 (by omega)
          rw [Int.toNat_natCast, Int.toNat_natCast]
          have h4 : PAll.spec_words.l0 (n + 1) s (acc ++ [s.extract from_ i]) ((i : Int) + 1) ((i : Int) + 1) = some _ := h3
          rw [h4, hex]
          have hsp : (L s).drop from_ = ((L s).drop from_).take (i - from_) ++ 32 :: (L s).drop (i + 1) := by
            conv => lhs; rw [← List.take_append_drop (i - from_) ((L s).drop from_)]
            rw [List.drop_drop, show from_ + (i - from_) = i by omega, List.drop_eq_getElem_cons hil, hbl]
          have hs2 : splitB ((L s).drop from_) = ((L s).drop from_).take (i - from_) :: splitB ((L s).drop (i + 1)) := by
            conv => lhs; rw [hsp]
            exact splitB_word _ hnb _
          rw [hs2]
          simp
        · rw [if_neg (fun h => hbl (UInt8.toNat_inj.1 (by have : ((L s)[i].toNat : Int) = 32 := h; simpa using (Int.ofNat_inj.1 (this.trans (show (32 : Int) = ((32 : Nat) : Int) from rfl))))) ), IntWalk.wrap64_in ((i : Int) + 1) ⟨by omega, by omega⟩]
          have h3 := (ih from_ (i + 1) acc (by omega) (by omega) (by omega) (by omega) (fun j h1 h2 => by
            by_cases hji : j = i
            · subst hji
              rw [List.getElem?_eq_getElem hil]
              exact fun e => hbl (Option.some.inj e)
            · exact hb j h1 (by omega))).1 (by omega)
          exact h3
    · unfold PAll.spec_words.l0
      rw [if_neg (by omega)]
theorem words_f (s : ByteArray) (hs : s.size ≤ 900) (k : Nat) (hk : 1500 ≤ k) : PAll.spec_words.f k s = some ((splitB (L s)).map ofL) := by
  obtain ⟨n, rfl⟩ : ∃ n, k = n + 1 := ⟨k - 1, by omega⟩
  have h := (words_l s (by omega) n 0 0 [] (Nat.le_refl _) (by omega) (by omega) (by simp; omega) (fun j h1 h2 => by omega)).1 (Nat.zero_le _)
  simpa [PAll.spec_words.f] using h
theorem last_l (s : ByteArray) (hs : s.size ≤ 1000) (a c : List UInt8) (hL : L s = a ++ 32 :: c) (hc : (32 : UInt8) ∉ c) : ∀ (n i : Nat), i < s.size → a.length ≤ i → i ≤ n + a.length → PAll.bytealg_LastIndexByteString.l0 (n + 1) s 32 (i : Int) = some (a.length : Int) := by
  have hlen : (L s).length = a.length + 1 + c.length := by rw [hL]; simp; omega
  intro n
  induction n with
  | zero =>
    intro i h1 h2 h3
    obtain rfl : i = a.length := by omega
    unfold PAll.bytealg_LastIndexByteString.l0
    rw [if_pos (by omega), if_pos (by omega), if_pos (by omega), bt_L s _ h1]
    have he : (L s)[a.length]'(by rw [L_len]; exact h1) = 32 := by simp only [hL]; simp
    rw [he, if_pos (by decide)]
  | succ n ih =>
    intro i h1 h2 h3
    unfold PAll.bytealg_LastIndexByteString.l0
    rw [if_pos (by omega), if_pos (by omega), if_pos (by omega), bt_L s _ h1]
    by_cases hia : i = a.length
    · subst hia
      have he : (L s)[a.length]'(by rw [L_len]; exact h1) = 32 := by simp only [hL]; simp
      rw [he, if_pos (by decide)]
    · have he : (L s)[i]'(by rw [L_len]; exact h1) ≠ 32 := by
        intro e
        apply hc
        have : (a ++ 32 :: c)[i]? = some 32 := by rw [← hL, List.getElem?_eq_getElem (by rw [L_len]; exact h1), e]
        rw [List.getElem?_append_right (by omega)] at this
        obtain ⟨q, hq⟩ : ∃ q, i - a.length = q + 1 := ⟨i - a.length - 1, by omega⟩
        rw [hq, List.getElem?_cons_succ] at this
        exact List.mem_of_getElem? this
      rw [if_neg (fun h => he (UInt8.toNat_inj.1 (by simpa using (Int.ofNat_inj.1 ((show (((L s)[i]'(by rw [L_len]; exact h1)).toNat : Int) = 32 from h).trans (show (32 : Int) = ((32 : Nat) : Int) from rfl))))))]
      have e2 : wrap64 ((i : Int) - 1) = ((i - 1 : Nat) : Int) := by rw [IntWalk.wrap64_in _ ⟨by omega, by omega⟩]; omega
      rw [e2]
      exact ih (i - 1) (by omega) (by omega) (by omega)
theorem last_f (s : ByteArray) (hs : s.size ≤ 1000) (a c : List UInt8) (hL : L s = a ++ 32 :: c) (hc : (32 : UInt8) ∉ c) : PAll.bytealg_LastIndexByteString.f 1500 s 32 = some (a.length : Int) := by
  have hlen : s.size = a.length + 1 + c.length := by rw [← L_len, hL]; simp; omega
  unfold PAll.bytealg_LastIndexByteString.f
  have e2 : wrap64 ((s.size : Int) - 1) = ((s.size - 1 : Nat) : Int) := by rw [IntWalk.wrap64_in _ ⟨by omega, by omega⟩]; omega
  rw [e2]
  exact last_l s hs a c hL hc 1499 _ (by omega) (by omega) (by omega)
end Go.Proofs.YtkogipaaioibaaaGreat

namespace Go.Proofs.YtkogipaaioibaaaGreat
set_option linter.unusedVariables false
set_option linter.unusedSimpArgs false
open Go.RowKit Go.Proofs.YtkogipaaioibaaaGreatW.PrintWords

/-- The first words that tell a kind (8: the text of the one that is no word). -/
def word : Nat → List UInt8
  | 0 => [76, 79, 65, 68, 73, 78, 71]
  | 1 => [82, 69, 65, 68, 79, 78, 76, 89]
  | 2 => [77, 79, 86, 69, 68]
  | 3 => [65, 83, 75]
  | 4 => [67, 76, 85, 83, 84, 69, 82, 68, 79, 87, 78]
  | 5 => [84, 82, 89, 65, 71, 65, 73, 78]
  | 6 => [77, 65, 83, 84, 69, 82, 68, 79, 87, 78]
  | 7 => [78, 79, 82, 69, 80, 76, 73, 67, 65, 83]
  | 8 => [69, 82, 82, 32, 109, 97, 120, 32, 110, 117, 109, 98, 101, 114, 32, 111, 102, 32, 99, 108, 105, 101, 110, 116, 115, 32, 114, 101, 97, 99, 104, 101, 100]
  | 9 => [78, 79, 65, 85, 84, 72]
  | 10 => [87, 82, 79, 78, 71, 80, 65, 83, 83]
  | 11 => [78, 79, 80, 69, 82, 77]
  | 12 => [69, 88, 69, 67, 65, 66, 79, 82, 84]
  | 13 => [79, 79, 77]
  | _ => []
/-- What a text of a kind begins with. -/
def pre : Nat → ByteArray
  | 0 => ⟨#[76, 79, 65, 68, 73, 78, 71, 32]⟩
  | 1 => ⟨#[82, 69, 65, 68, 79, 78, 76, 89, 32]⟩
  | 2 => ⟨#[77, 79, 86, 69, 68, 32]⟩
  | 3 => ⟨#[65, 83, 75, 32]⟩
  | 4 => ⟨#[67, 76, 85, 83, 84, 69, 82, 68, 79, 87, 78, 32]⟩
  | 5 => ⟨#[84, 82, 89, 65, 71, 65, 73, 78, 32]⟩
  | 6 => ⟨#[77, 65, 83, 84, 69, 82, 68, 79, 87, 78, 32]⟩
  | 7 => ⟨#[78, 79, 82, 69, 80, 76, 73, 67, 65, 83, 32]⟩
  | 8 => ⟨#[69, 82, 82, 32, 109, 97, 120, 32, 110, 117, 109, 98, 101, 114, 32, 111, 102, 32, 99, 108, 105, 101, 110, 116, 115, 32, 114, 101, 97, 99, 104, 101, 100]⟩
  | 9 => ⟨#[78, 79, 65, 85, 84, 72, 32]⟩
  | 10 => ⟨#[87, 82, 79, 78, 71, 80, 65, 83, 83, 32]⟩
  | 11 => ⟨#[78, 79, 80, 69, 82, 77, 32]⟩
  | 12 => ⟨#[69, 88, 69, 67, 65, 66, 79, 82, 84, 32]⟩
  | 13 => ⟨#[79, 79, 77, 32]⟩
  | _ => ⟨#[]⟩
/-- The names of the kinds. -/
def nm : Nat → ByteArray
  | 0 => ⟨#[76, 111, 97, 100, 105, 110, 103]⟩
  | 1 => ⟨#[82, 101, 97, 100, 79, 110, 108, 121]⟩
  | 2 => ⟨#[77, 111, 118, 101, 100]⟩
  | 3 => ⟨#[65, 115, 107]⟩
  | 4 => ⟨#[67, 108, 117, 115, 116, 101, 114, 68, 111, 119, 110]⟩
  | 5 => ⟨#[84, 114, 121, 65, 103, 97, 105, 110]⟩
  | 6 => ⟨#[77, 97, 115, 116, 101, 114, 68, 111, 119, 110]⟩
  | 7 => ⟨#[78, 111, 82, 101, 112, 108, 105, 99, 97, 115]⟩
  | 8 => ⟨#[77, 97, 120, 67, 108, 105, 101, 110, 116, 115]⟩
  | 9 => ⟨#[65, 117, 116, 104]⟩
  | 10 => ⟨#[65, 117, 116, 104]⟩
  | 11 => ⟨#[80, 101, 114, 109, 105, 115, 115, 105, 111, 110]⟩
  | 12 => ⟨#[69, 120, 101, 99, 65, 98, 111, 114, 116]⟩
  | 13 => ⟨#[79, 79, 77]⟩
  | _ => ⟨#[]⟩
def unauth : ByteArray := ⟨#[117, 110, 97, 117, 116, 104, 101, 110, 116, 105, 99, 97, 116, 101, 100]⟩
def ronly : ByteArray := ⟨#[45, 82, 69, 65, 68, 79, 78, 76, 89]⟩
def ronlyL : ByteArray := ⟨#[45, 82, 69, 65, 68, 79, 78, 76, 89, 32, 89, 111, 117, 32, 99, 97, 110, 39, 116, 32, 119, 114, 105, 116, 101, 32, 97, 103, 97, 105, 110, 115, 116, 32, 97, 32, 114, 101, 97, 100, 32, 111, 110, 108, 121, 32, 114, 101, 112, 108, 105, 99, 97]⟩

theorem pre_word (i : Nat) (h : i < 14) (h8 : i ≠ 8) : L (pre i) = word i ++ [32] ∧ (32 : UInt8) ∉ word i ∧ (pre i).size = (word i).length + 1 := by
  have : i = 0 ∨ i = 1 ∨ i = 2 ∨ i = 3 ∨ i = 4 ∨ i = 5 ∨ i = 6 ∨ i = 7 ∨ i = 9 ∨ i = 10 ∨ i = 11 ∨ i = 12 ∨ i = 13 := by omega
  rcases this with rfl | rfl | rfl | rfl | rfl | rfl | rfl | rfl | rfl | rfl | rfl | rfl | rfl <;> exact ⟨rfl, by decide, rfl⟩
/-- A text with a blank begins with a kind's mark just if its first word is the kind's. -/
theorem at_word {m : ByteArray} {a r : List UInt8} (hL : L m = a ++ 32 :: r) (ha : (32 : UInt8) ∉ a) (i : Nat) (h : i < 14) (h8 : i ≠ 8) : At (pre i) m 0 ↔ a = word i := by
  obtain ⟨h1, h2, h3⟩ := pre_word i h h8
  constructor
  · rintro ⟨_, he⟩
    rw [List.drop_zero, h1, h3] at he
    have hs : L m = word i ++ 32 :: (L m).drop ((word i).length + 1) := by
      conv => lhs; rw [← List.take_append_drop ((word i).length + 1) (L m), he]
      simp
    have e1 := splitB_word a ha r
    have e2 := splitB_word (word i) h2 ((L m).drop ((word i).length + 1))
    rw [← hs, hL, e1] at e2
    exact (List.cons.inj e2).1
  · rintro rfl
    have hz : m.size = (word i).length + 1 + r.length := by rw [← L_len, hL]; simp; omega
    refine ⟨by omega, ?_⟩
    rw [List.drop_zero, h1, h3, hL, List.take_append, List.take_of_length_le (by omega)]
    simp
theorem at_blank {m : ByteArray} (hm : (32 : UInt8) ∉ L m) (i : Nat) (h : i < 14) (h8 : i ≠ 8) : ¬ At (pre i) m 0 := by
  rintro ⟨_, he⟩
  obtain ⟨h1, h2, h3⟩ := pre_word i h h8
  apply hm
  have : (32 : UInt8) ∈ ((L m).drop 0).take (pre i).size := by rw [he, h1]; simp
  exact List.mem_of_mem_drop (List.mem_of_mem_take this)
theorem kind_cases (a : List UInt8) (k : Nat) (hk : 1 ≤ k) : (∃ i, i < 14 ∧ i ≠ 8 ∧ a = word i ∧ PAll.spec_kindOf.f k (ofL a) = some (nm i)) ∨ ((∀ i, i < 14 → i ≠ 8 → a ≠ word i) ∧ PAll.spec_kindOf.f k (ofL a) = some (⟨#[]⟩ : ByteArray)) := by
  obtain ⟨k, rfl⟩ : ∃ n, k = n + 1 := ⟨k - 1, by omega⟩
  unfold PAll.spec_kindOf.f PAll.spec_kindOf.j0
  simp only [toL, L_ofL]
  by_cases c0 : a = word 0
  · exact .inl ⟨0, by decide, by decide, c0, by subst c0; rfl⟩
  by_cases c1 : a = word 1
  · exact .inl ⟨1, by decide, by decide, c1, by subst c1; rfl⟩
  by_cases c4 : a = word 4
  · exact .inl ⟨4, by decide, by decide, c4, by subst c4; rfl⟩
  by_cases c5 : a = word 5
  · exact .inl ⟨5, by decide, by decide, c5, by subst c5; rfl⟩
  by_cases c6 : a = word 6
  · exact .inl ⟨6, by decide, by decide, c6, by subst c6; rfl⟩
  by_cases c9 : a = word 9
  · exact .inl ⟨9, by decide, by decide, c9, by subst c9; rfl⟩
  by_cases c10 : a = word 10
  · exact .inl ⟨10, by decide, by decide, c10, by subst c10; rfl⟩
  by_cases c11 : a = word 11
  · exact .inl ⟨11, by decide, by decide, c11, by subst c11; rfl⟩
  by_cases c12 : a = word 12
  · exact .inl ⟨12, by decide, by decide, c12, by subst c12; rfl⟩
  by_cases c13 : a = word 13
  · exact .inl ⟨13, by decide, by decide, c13, by subst c13; rfl⟩
  by_cases c7 : a = word 7
  · exact .inl ⟨7, by decide, by decide, c7, by subst c7; rfl⟩
  by_cases c2 : a = word 2
  · exact .inl ⟨2, by decide, by decide, c2, by subst c2; rfl⟩
  by_cases c3 : a = word 3
  · exact .inl ⟨3, by decide, by decide, c3, by subst c3; rfl⟩
  refine .inr ⟨fun i h h8 => ?_, ?_⟩
  · have : i = 0 ∨ i = 1 ∨ i = 2 ∨ i = 3 ∨ i = 4 ∨ i = 5 ∨ i = 6 ∨ i = 7 ∨ i = 9 ∨ i = 10 ∨ i = 11 ∨ i = 12 ∨ i = 13 := by omega
    rcases this with rfl | rfl | rfl | rfl | rfl | rfl | rfl | rfl | rfl | rfl | rfl | rfl | rfl <;> assumption
  · simp only [word] at *
    simp [*]
theorem split2 {r b c : List UInt8} (h : splitB r = [b, c]) : r = b ++ 32 :: c ∧ (32 : UInt8) ∉ c := by
  rcases splitB_cases r with h1 | ⟨b', r2, rfl, hb⟩
  · rw [splitB_last r h1] at h
    simp at h
  · rw [splitB_word b' hb] at h
    injection h with e1 e2
    subst e1
    rcases splitB_cases r2 with h1 | ⟨b2, r3, rfl, hb2⟩
    · rw [splitB_last r2 h1] at e2
      injection e2 with e3 _
      subst e3
      exact ⟨rfl, h1⟩
    · rw [splitB_word b2 hb2] at e2
      injection e2 with _ e4
      exact absurd e4 (splitB_ne _)
/-- What the reference tells of a text (behind its sign) where it speaks. -/
def Cls (m kind addr : ByteArray) : Prop :=
  (∃ i, i < 14 ∧ At (pre i) m 0 ∧ kind = nm i ∧ ((i = 2 ∨ i = 3) → ∃ a c, L m = a ++ 32 :: c ∧ (32 : UInt8) ∉ c ∧ addr = ofL c) ∧ (i ≠ 2 → i ≠ 3 → addr = ⟨#[]⟩)) ∨
    ((∀ i, i < 14 → ¬ At (pre i) m 0) ∧ kind = ⟨#[]⟩ ∧ addr = ⟨#[]⟩)
/-- All that the reference tells of a line. -/
def Ek (line kind addr : ByteArray) (told : Int) : Prop :=
  told = 1 → 1 ≤ line.size ∧ (∀ j, ¬ At unauth (line.extract 1 line.size) j) ∧ (∀ j, ¬ At ronly (line.extract 1 line.size) j) ∧ Cls (line.extract 1 line.size) kind addr
theorem Ek.open_ (line kind addr : ByteArray) : Ek line kind addr 2 := fun h => absurd h (by decide)
theorem nm_ne (i : Nat) (h : i < 14) : (nm i).toList ≠ [] := by
  have : i = 0 ∨ i = 1 ∨ i = 2 ∨ i = 3 ∨ i = 4 ∨ i = 5 ∨ i = 6 ∨ i = 7 ∨ i = 8 ∨ i = 9 ∨ i = 10 ∨ i = 11 ∨ i = 12 ∨ i = 13 := by omega
  rcases this with rfl | rfl | rfl | rfl | rfl | rfl | rfl | rfl | rfl | rfl | rfl | rfl | rfl | rfl <;> (rw [toL]; decide)
theorem nm_moved (i : Nat) (h : i < 14) : ((nm i).toList = ([77, 111, 118, 101, 100] : List UInt8) ↔ i = 2) ∧ ((nm i).toList = ([65, 115, 107] : List UInt8) ↔ i = 3) := by
  have : i = 0 ∨ i = 1 ∨ i = 2 ∨ i = 3 ∨ i = 4 ∨ i = 5 ∨ i = 6 ∨ i = 7 ∨ i = 8 ∨ i = 9 ∨ i = 10 ∨ i = 11 ∨ i = 12 ∨ i = 13 := by omega
  rcases this with rfl | rfl | rfl | rfl | rfl | rfl | rfl | rfl | rfl | rfl | rfl | rfl | rfl | rfl <;> (rw [toL]; decide)
theorem ek_law (line : ByteArray) (hz : line.size ≤ 200) : ∃ kind addr told, PAll.spec_ErrorKind.f 2000 line = some (kind, addr, told) ∧ Ek line kind addr told := by
  unfold PAll.spec_ErrorKind.f
  obtain ⟨b1, e1, i1⟩ := begins_f line ⟨#[45]⟩
  rw [e1, Option.bind_some]
  cases b1 with
  | false =>
    rw [if_neg (by decide)]
    exact ⟨_, _, _, rfl, Ek.open_ _ _ _⟩
  | true =>
    rw [if_pos rfl]
    have hA := i1.1 rfl
    have hz1 : 1 ≤ line.size := by have h5 : 0 + 1 ≤ line.size := hA.1; omega
    obtain ⟨b2, e2⟩ := inLine_l line (by omega) 1999 0 (by omega) (by omega)
    have e2' : PAll.spec_inLine.f 2000 line = some b2 := e2
    rw [e2', Option.bind_some]
    cases b2 with
    | false => exact ⟨_, _, _, rfl, Ek.open_ _ _ _⟩
    | true =>
      show ∃ kind addr told, PAll.spec_ErrorKind.j0 2000 line false = some (kind, addr, told) ∧ _
      rw [PAll.spec_ErrorKind.j0]
      rw [if_neg (by decide)]
      obtain ⟨b3, e3, i3⟩ := holds_f line unauth (by omega) (by decide) 1999 (by decide)
      have e3' : PAll.spec_holds.f 1999 line (⟨#[117, 110, 97, 117, 116, 104, 101, 110, 116, 105, 99, 97, 116, 101, 100]⟩ : ByteArray) = some b3 := e3
      rw [e3', Option.bind_some]
      cases b3 with
      | true =>
        rw [if_pos rfl]
        exact ⟨_, _, _, rfl, Ek.open_ _ _ _⟩
      | false =>
        rw [if_neg (by decide), if_pos (by omega)]
        have n3 : ∀ j, ¬ At unauth line j := fun j h => absurd (i3.2 ⟨j, h⟩) (by decide)
        have hmz : (line.extract 1 line.size).size = line.size - 1 := by rw [ByteArray.size_extract]; omega
        obtain ⟨b4, e4, i4⟩ := holds_f (line.extract 1 line.size) ronly (by omega) (by decide) 1999 (by decide)
        have e4' : PAll.spec_holds.f 1999 (line.extract 1 line.size) (⟨#[45, 82, 69, 65, 68, 79, 78, 76, 89]⟩ : ByteArray) = some b4 := e4
        rw [e4', Option.bind_some]
        cases b4 with
        | true => exact ⟨_, _, _, rfl, Ek.open_ _ _ _⟩
        | false =>
          have n4 : ∀ j, ¬ At ronly (line.extract 1 line.size) j := fun j h => absurd (i4.2 ⟨j, h⟩) (by decide)
          have n3' : ∀ j, ¬ At unauth (line.extract 1 line.size) j := fun j h => n3 _ (at_shift h hz1)
          have hhead : L line = 45 :: L (line.extract 1 line.size) := by
            have h5 := hA.2
            rw [List.drop_zero] at h5
            have h5' : (L line).take 1 = [45] := h5
            rw [L_ext, List.take_of_length_le (by rw [List.length_drop, L_len]; omega)]
            conv => lhs; rw [← List.take_append_drop 1 (L line), h5']
            rfl
          rw [PAll.spec_ErrorKind.j1]
          rw [if_neg (by decide)]
          obtain ⟨b5, e5, i5⟩ := begins_f line ⟨#[45, 69, 82, 82, 32, 109, 97, 120, 32, 110, 117, 109, 98, 101, 114, 32, 111, 102, 32, 99, 108, 105, 101, 110, 116, 115, 32, 114, 101, 97, 99, 104, 101, 100]⟩
          rw [e5, Option.bind_some]
          have hmax : At (pre 8) (line.extract 1 line.size) 0 ↔ b5 = true := by
            rw [i5]
            unfold At
            rw [List.drop_zero, List.drop_zero, hhead, hmz]
            show 0 + 33 ≤ line.size - 1 ∧ (L (line.extract 1 line.size)).take 33 = L (pre 8) ↔ 0 + 34 ≤ line.size ∧ (45 :: L (line.extract 1 line.size)).take (33 + 1) = 45 :: L (pre 8)
            rw [List.take_succ_cons]
            constructor
            · rintro ⟨h1, h2⟩; exact ⟨by omega, by rw [h2]⟩
            · rintro ⟨h1, h2⟩; exact ⟨by omega, (List.cons.inj h2).2⟩
          generalize hm : line.extract 1 line.size = m at *
          cases b5 with
          | true =>
            rw [if_pos rfl]
            exact ⟨_, _, _, rfl, fun _ => ⟨hz1, by rw [hm]; exact n3', by rw [hm]; exact n4, by rw [hm]; exact .inl ⟨8, by decide, hmax.2 rfl, rfl, fun h => by omega, fun _ _ => rfl⟩⟩⟩
          | false =>
            rw [if_neg (by decide), if_pos (by omega), words_f m (by omega) 1998 (by decide), Option.bind_some, if_pos (by have := splitB_ne (L m); rw [List.length_map]; have := List.length_pos_iff.2 this; omega)]
            have n8 : ¬ At (pre 8) m 0 := fun h => absurd (hmax.1 h) (by decide)
            have done : ∀ kind addr, Cls m kind addr → Ek line kind addr 1 := fun kind addr h _ => ⟨hz1, by rw [hm]; exact n3', by rw [hm]; exact n4, by rw [hm]; exact h⟩
            rcases splitB_cases (L m) with hnb | ⟨a, r, hL, ha⟩
            · have hs := splitB_last (L m) hnb
              have hcls : Cls m ⟨#[]⟩ ⟨#[]⟩ := .inr ⟨fun i h => by
                by_cases h8 : i = 8
                · subst h8; exact n8
                · exact at_blank hnb i h h8, rfl, rfl⟩
              rw [hs]
              show ∃ kind addr told, ((PAll.spec_kindOf.f 1998 (ofL (L m))).bind fun t116 => (if t116.toList = ([] : List UInt8) then (PAll.spec_ErrorKind.j2 1998 t116 [ofL (L m)] true) else (PAll.spec_ErrorKind.j2 1998 t116 [ofL (L m)] true))) = some (kind, addr, told) ∧ _
              rcases kind_cases (L m) 1998 (by decide) with ⟨i, h1, h2, h3, h4⟩ | ⟨h1, h4⟩
              · rw [h4, Option.bind_some, ite_self]
                exact ⟨_, _, _, rfl, done _ _ hcls⟩
              · rw [h4, Option.bind_some, ite_self]
                exact ⟨_, _, _, rfl, done _ _ hcls⟩
            · have hs := splitB_word a ha r
              rw [← hL] at hs
              rw [hs]
              obtain ⟨q, tl, hq⟩ : ∃ q tl, splitB r = q :: tl := by
                cases h : splitB r with
                | nil => exact absurd h (splitB_ne r)
                | cons q tl => exact ⟨q, tl, rfl⟩
              have hlen1 : ((List.map ofL (a :: splitB r)).length : Int) ≠ 1 := by rw [hq]; simp; omega
              show ∃ kind addr told, ((PAll.spec_kindOf.f 1998 (ofL a)).bind fun t116 => (if t116.toList = ([] : List UInt8) then (PAll.spec_ErrorKind.j2 1998 t116 (List.map ofL (a :: splitB r)) true) else (PAll.spec_ErrorKind.j2 1998 t116 (List.map ofL (a :: splitB r)) (((List.map ofL (a :: splitB r)).length : Int) == 1)))) = some (kind, addr, told) ∧ _
              rcases kind_cases a 1998 (by decide) with ⟨i, h1, h2, h3, h4⟩ | ⟨h1, h4⟩
              · rw [h4, Option.bind_some, if_neg (nm_ne i h1), beq_false_of_ne hlen1]
                rw [PAll.spec_ErrorKind.j2]
                rw [if_neg (by decide)]
                have hat : At (pre i) m 0 := (at_word hL ha i h1 h2).2 h3
                have plain : i ≠ 2 → i ≠ 3 → Cls m (nm i) ⟨#[]⟩ := fun n2 n3 => .inl ⟨i, h1, hat, rfl, fun h => by omega, fun _ _ => rfl⟩
                have three : (i = 2 ∨ i = 3) → ∃ kind addr told, PAll.spec_ErrorKind.j3 1997 (nm i) (List.map ofL (a :: splitB r)) false = some (kind, addr, told) ∧ Ek line kind addr told := by
                  intro h23
                  rw [PAll.spec_ErrorKind.j3]
                  rw [if_neg (by decide)]
                  by_cases h3l : ((List.map ofL (a :: splitB r)).length : Int) = 3
                  · rw [if_pos h3l, if_pos (by omega)]
                    split
                    · exact ⟨_, _, _, rfl, Ek.open_ _ _ _⟩
                    · rw [if_pos (by omega)]
                      split
                      · exact ⟨_, _, _, rfl, Ek.open_ _ _ _⟩
                      · refine ⟨_, _, _, rfl, done _ _ (.inl ⟨i, h1, hat, rfl, fun _ => ?_, fun n2 n3 => by omega⟩)⟩
                        obtain ⟨c, hc⟩ : ∃ c, tl = [c] := by
                          rw [hq] at h3l
                          simp only [List.length_map, List.length_cons] at h3l
                          match tl, h3l with
                          | [c], _ => exact ⟨c, rfl⟩
                          | [], h => simp at h
                          | _ :: _ :: _, h => simp at h; omega
                        rw [hc] at hq
                        obtain ⟨hr, hcb⟩ := split2 hq
                        refine ⟨a ++ 32 :: q, c, ?_, hcb, ?_⟩
                        · rw [hL, hr]; simp
                        · rw [hq]; rfl
                  · rw [if_neg h3l]
                    exact ⟨_, _, _, rfl, Ek.open_ _ _ _⟩
                by_cases hi2 : i = 2
                · rw [if_pos ((nm_moved i h1).1.2 hi2)]
                  exact three (.inl hi2)
                · rw [if_neg (fun h => hi2 ((nm_moved i h1).1.1 h))]
                  by_cases hi3 : i = 3
                  · have e6 : ((nm i).toList != ([65, 115, 107] : List UInt8)) = false := by rw [(nm_moved i h1).2.2 hi3]; rfl
                    rw [e6]
                    exact three (.inr hi3)
                  · have e6 : ((nm i).toList != ([65, 115, 107] : List UInt8)) = true := bne_iff_ne.2 (fun h => hi3 ((nm_moved i h1).2.1 h))
                    rw [e6]
                    exact ⟨_, _, _, rfl, done _ _ (plain hi2 hi3)⟩
              · rw [h4, Option.bind_some, if_pos (by rw [toL]; rfl)]
                refine ⟨_, _, _, rfl, done _ _ (.inr ⟨fun i h => ?_, rfl, rfl⟩)⟩
                by_cases h8 : i = 8
                · subst h8; exact n8
                · exact fun hx => h1 i h h8 ((at_word hL ha i h h8).1 hx)
end Go.Proofs.YtkogipaaioibaaaGreat

namespace Go.Proofs.YtkogipaaioibaaaGreat
set_option linter.unusedVariables false
set_option linter.unusedSimpArgs false
open Go.RowKit Go.Proofs.YtkogipaaioibaaaGreatW.PrintWords

theorem hp_yes (m p : ByteArray) (h : At p m 0) (w : World) : Calls Tryz.prog 34 #[.string m, .string p] w fun e w' => e = .returned (.bool true) ∧ Drawn0 w w' := by
  obtain ⟨b, hb, hi⟩ := hp_f m p
  obtain rfl := hi.2 h
  exact PAll.strings_HasPrefix.calls m p true w hb
theorem hp_no (m p : ByteArray) (h : ¬ At p m 0) (w : World) : Calls Tryz.prog 34 #[.string m, .string p] w fun e w' => e = .returned (.bool false) ∧ Drawn0 w w' := by
  obtain ⟨b, hb, hi⟩ := hp_f m p
  obtain rfl : b = false := by cases b <;> simp_all
  exact PAll.strings_HasPrefix.calls m p false w hb
theorem ct_no (m p : ByteArray) (hm : m.size ≤ 1000) (hp : p.size ≤ 1000) (h : ∀ j, ¬ At p m j) (w : World) : Calls Tryz.prog 36 #[.string m, .string p] w fun e w' => e = .returned (.bool false) ∧ Drawn0 w w' := by
  obtain ⟨b, hb, hi⟩ := contains_f m p hm hp
  obtain rfl : b = false := by
    cases b with
    | false => rfl
    | true => obtain ⟨j, hj⟩ := hi.1 rfl; exact absurd hj (h j)
  exact PAll.proto_zzContains.calls 1500 m p false w hb
set_option maxHeartbeats 1000000 in
theorem lastIndex_any (s : ByteArray) (hs : s.size ≤ 1000) (a c : List UInt8) (hL : L s = a ++ 32 :: c) (hc : (32 : UInt8) ∉ c) (w : World) : Calls Tryz.prog 71 #[.string s, .string ⟨#[32]⟩] w fun e w' => e = .returned (.int .i64 a.length) ∧ Drawn0 w w' := by
  have HC := Lib.hid (fun w => PAll.bytealg_LastIndexByteString.calls 1500 s 32 a.length w (last_f s hs a c hL hc))
  clear hL hc
  go_enter Tryz.func71, Tryz.ntmps71
  go_wp2_with fail
  refine (HC.out _).mono ?_
  rintro e w1 ⟨rfl, ⟨nd, rfl⟩⟩
  go_wp2_with fail
  go_ret
  exact ⟨rfl, (Drawn0.refl w).step _⟩
set_option maxHeartbeats 1000000 in
theorem addr_any (s : ByteArray) (hs : s.size ≤ 1000) (a c : List UInt8) (hL : L s = a ++ 32 :: c) (hc : (32 : UInt8) ∉ c) (w : World) : Calls Tryz.prog 44 #[.string s] w fun e w' => e = .returned (.string (ofL c)) ∧ Drawn0 w w' := by
  have HC := Lib.hid (fun w => lastIndex_any s hs a c hL hc w)
  have hz : s.size = a.length + 1 + c.length := by rw [← L_len, hL]; simp; omega
  have hal : a.length + 1 ≤ s.size := by omega
  have HE := Lib.hid (show s.extract (a.length + 1) s.size = ofL c by
    apply L_inj
    rw [L_ext, L_ofL, hL]
    have e : (a ++ 32 :: c).drop (a.length + 1) = c := by rw [← List.drop_drop]; simp
    rw [e, List.take_of_length_le (by omega)])
  clear hL hc hz
  go_enter Tryz.func44, Tryz.ntmps44
  go_wp2_with fail
  refine (HC.out _).mono ?_
  rintro e w1 ⟨rfl, ⟨nd, rfl⟩⟩
  go_wp2_with fail
  go_ret
  exact ⟨by rw [← HE.out]; rfl, (Drawn0.refl w).step _⟩
theorem re_error (m : ByteArray) (w : World) : Calls Tryz.prog 35 #[.string m] w fun e w' => e = .returned (.string m) ∧ w' = w := by
  go_enter Tryz.func35, Tryz.ntmps35
  go_wp2_with fail
  go_ret
  exact ⟨rfl, rfl⟩
theorem re_meth (n : Nat) (m : ByteArray) (w : World) : (method (n + 1) 55 (.string m) "Error").run Tryz.prog w = .ok (35, .string m) w := by kernel_rfl
theorem re_ahead (n : Nat) (m : ByteArray) (w : World) : (nilAhead (n + 1) 55 (.string m) "Error").run Tryz.prog w = .ok (some false) w := by kernel_rfl

theorem err_Loading (m : ByteArray) (g : Nat) (w : World) (hb : w.heap[g]? = some (.cells #[.string m] 114 (0, 0))) : Calls Tryz.prog 104 #[.pointer (some ⟨g, 0, none⟩)] w fun e w' => e = .returned (.string m) ∧ w' = w := by
  have c0 : w.cell? ⟨g, 0, none⟩ = some (.string m) := blk_cell hb 0
  clear hb
  go_enter Tryz.func104, Tryz.ntmps104
  go_wp2_with fail
  go_ret
  exact ⟨rfl, rfl⟩
theorem meth_Loading (n : Nat) (a : Addr) (w : World) : (method (n + 1) 53 (.pointer (some a)) "Error").run Tryz.prog w = .ok (104, .pointer (some a)) w := by kernel_rfl
theorem ahead_Loading (n : Nat) (a : Addr) (w : World) : (nilAhead (n + 1) 53 (.pointer (some a)) "Error").run Tryz.prog w = .ok (some false) w := by kernel_rfl
theorem new_Loading (m : ByteArray) (w : World) : Calls Tryz.prog 42 #[.string m] w fun e w' => e = .returned (.pointer (some ⟨w.heap.size, 0, none⟩)) ∧ w' = w.alloc (.cells #[.string m] 114) := by
  go_enter Tryz.func42, Tryz.ntmps42
  go_wp2_with fail
  go_ret
  exact ⟨rfl, rfl⟩

theorem err_ReadOnly (m : ByteArray) (g : Nat) (w : World) (hb : w.heap[g]? = some (.cells #[.string m] 115 (0, 0))) : Calls Tryz.prog 107 #[.pointer (some ⟨g, 0, none⟩)] w fun e w' => e = .returned (.string m) ∧ w' = w := by
  have c0 : w.cell? ⟨g, 0, none⟩ = some (.string m) := blk_cell hb 0
  clear hb
  go_enter Tryz.func107, Tryz.ntmps107
  go_wp2_with fail
  go_ret
  exact ⟨rfl, rfl⟩
theorem meth_ReadOnly (n : Nat) (a : Addr) (w : World) : (method (n + 1) 57 (.pointer (some a)) "Error").run Tryz.prog w = .ok (107, .pointer (some a)) w := by kernel_rfl
theorem ahead_ReadOnly (n : Nat) (a : Addr) (w : World) : (nilAhead (n + 1) 57 (.pointer (some a)) "Error").run Tryz.prog w = .ok (some false) w := by kernel_rfl
theorem new_ReadOnly (m : ByteArray) (w : World) : Calls Tryz.prog 43 #[.string m] w fun e w' => e = .returned (.pointer (some ⟨w.heap.size, 0, none⟩)) ∧ w' = w.alloc (.cells #[.string m] 115) := by
  go_enter Tryz.func43, Tryz.ntmps43
  go_wp2_with fail
  go_ret
  exact ⟨rfl, rfl⟩

theorem err_Moved (m a : ByteArray) (g : Nat) (w : World) (hb : w.heap[g]? = some (.cells #[.string m, .string a] 61 (0, 0))) : Calls Tryz.prog 100 #[.pointer (some ⟨g, 0, none⟩)] w fun e w' => e = .returned (.string m) ∧ w' = w := by
  have c0 : w.cell? ⟨g, 0, none⟩ = some (.string m) := blk_cell hb 0
  clear hb
  go_enter Tryz.func100, Tryz.ntmps100
  go_wp2_with fail
  go_ret
  exact ⟨rfl, rfl⟩
theorem meth_Moved (n : Nat) (a : Addr) (w : World) : (method (n + 1) 38 (.pointer (some a)) "Error").run Tryz.prog w = .ok (100, .pointer (some a)) w := by kernel_rfl
theorem ahead_Moved (n : Nat) (a : Addr) (w : World) : (nilAhead (n + 1) 38 (.pointer (some a)) "Error").run Tryz.prog w = .ok (some false) w := by kernel_rfl
theorem addrOf_Moved (m a : ByteArray) (g : Nat) (w : World) (hb : w.heap[g]? = some (.cells #[.string m, .string a] 61 (0, 0))) : Calls Tryz.prog 19 #[.pointer (some ⟨g, 0, none⟩)] w fun e w' => e = .returned (.string a) ∧ w' = w := by
  have c0 : w.cell? ⟨g, 1, none⟩ = some (.string a) := blk_cell hb 1
  clear hb
  go_enter Tryz.func19, Tryz.ntmps19
  go_wp2_with fail
  go_ret
  exact ⟨rfl, rfl⟩
theorem new_Moved (m a : ByteArray) (w : World) : Calls Tryz.prog 45 #[.string m, .string a] w fun e w' => e = .returned (.pointer (some ⟨w.heap.size, 0, none⟩)) ∧ w' = w.alloc (.cells #[.string m, .string a] 61) := by
  go_enter Tryz.func45, Tryz.ntmps45
  go_wp2_with fail
  go_ret
  exact ⟨rfl, rfl⟩

theorem err_Ask (m a : ByteArray) (g : Nat) (w : World) (hb : w.heap[g]? = some (.cells #[.string m, .string a] 62 (0, 0))) : Calls Tryz.prog 102 #[.pointer (some ⟨g, 0, none⟩)] w fun e w' => e = .returned (.string m) ∧ w' = w := by
  have c0 : w.cell? ⟨g, 0, none⟩ = some (.string m) := blk_cell hb 0
  clear hb
  go_enter Tryz.func102, Tryz.ntmps102
  go_wp2_with fail
  go_ret
  exact ⟨rfl, rfl⟩
theorem meth_Ask (n : Nat) (a : Addr) (w : World) : (method (n + 1) 42 (.pointer (some a)) "Error").run Tryz.prog w = .ok (102, .pointer (some a)) w := by kernel_rfl
theorem ahead_Ask (n : Nat) (a : Addr) (w : World) : (nilAhead (n + 1) 42 (.pointer (some a)) "Error").run Tryz.prog w = .ok (some false) w := by kernel_rfl
theorem addrOf_Ask (m a : ByteArray) (g : Nat) (w : World) (hb : w.heap[g]? = some (.cells #[.string m, .string a] 62 (0, 0))) : Calls Tryz.prog 21 #[.pointer (some ⟨g, 0, none⟩)] w fun e w' => e = .returned (.string a) ∧ w' = w := by
  have c0 : w.cell? ⟨g, 1, none⟩ = some (.string a) := blk_cell hb 1
  clear hb
  go_enter Tryz.func21, Tryz.ntmps21
  go_wp2_with fail
  go_ret
  exact ⟨rfl, rfl⟩
theorem new_Ask (m a : ByteArray) (w : World) : Calls Tryz.prog 46 #[.string m, .string a] w fun e w' => e = .returned (.pointer (some ⟨w.heap.size, 0, none⟩)) ∧ w' = w.alloc (.cells #[.string m, .string a] 62) := by
  go_enter Tryz.func46, Tryz.ntmps46
  go_wp2_with fail
  go_ret
  exact ⟨rfl, rfl⟩

theorem err_ClusterDown (m : ByteArray) (g : Nat) (w : World) (hb : w.heap[g]? = some (.cells #[.string m] 116 (0, 0))) : Calls Tryz.prog 109 #[.pointer (some ⟨g, 0, none⟩)] w fun e w' => e = .returned (.string m) ∧ w' = w := by
  have c0 : w.cell? ⟨g, 0, none⟩ = some (.string m) := blk_cell hb 0
  clear hb
  go_enter Tryz.func109, Tryz.ntmps109
  go_wp2_with fail
  go_ret
  exact ⟨rfl, rfl⟩
theorem meth_ClusterDown (n : Nat) (a : Addr) (w : World) : (method (n + 1) 63 (.pointer (some a)) "Error").run Tryz.prog w = .ok (109, .pointer (some a)) w := by kernel_rfl
theorem ahead_ClusterDown (n : Nat) (a : Addr) (w : World) : (nilAhead (n + 1) 63 (.pointer (some a)) "Error").run Tryz.prog w = .ok (some false) w := by kernel_rfl
theorem new_ClusterDown (m : ByteArray) (w : World) : Calls Tryz.prog 47 #[.string m] w fun e w' => e = .returned (.pointer (some ⟨w.heap.size, 0, none⟩)) ∧ w' = w.alloc (.cells #[.string m] 116) := by
  go_enter Tryz.func47, Tryz.ntmps47
  go_wp2_with fail
  go_ret
  exact ⟨rfl, rfl⟩

theorem err_TryAgain (m : ByteArray) (g : Nat) (w : World) (hb : w.heap[g]? = some (.cells #[.string m] 117 (0, 0))) : Calls Tryz.prog 111 #[.pointer (some ⟨g, 0, none⟩)] w fun e w' => e = .returned (.string m) ∧ w' = w := by
  have c0 : w.cell? ⟨g, 0, none⟩ = some (.string m) := blk_cell hb 0
  clear hb
  go_enter Tryz.func111, Tryz.ntmps111
  go_wp2_with fail
  go_ret
  exact ⟨rfl, rfl⟩
theorem meth_TryAgain (n : Nat) (a : Addr) (w : World) : (method (n + 1) 65 (.pointer (some a)) "Error").run Tryz.prog w = .ok (111, .pointer (some a)) w := by kernel_rfl
theorem ahead_TryAgain (n : Nat) (a : Addr) (w : World) : (nilAhead (n + 1) 65 (.pointer (some a)) "Error").run Tryz.prog w = .ok (some false) w := by kernel_rfl
theorem new_TryAgain (m : ByteArray) (w : World) : Calls Tryz.prog 48 #[.string m] w fun e w' => e = .returned (.pointer (some ⟨w.heap.size, 0, none⟩)) ∧ w' = w.alloc (.cells #[.string m] 117) := by
  go_enter Tryz.func48, Tryz.ntmps48
  go_wp2_with fail
  go_ret
  exact ⟨rfl, rfl⟩

theorem err_MasterDown (m : ByteArray) (g : Nat) (w : World) (hb : w.heap[g]? = some (.cells #[.string m] 118 (0, 0))) : Calls Tryz.prog 113 #[.pointer (some ⟨g, 0, none⟩)] w fun e w' => e = .returned (.string m) ∧ w' = w := by
  have c0 : w.cell? ⟨g, 0, none⟩ = some (.string m) := blk_cell hb 0
  clear hb
  go_enter Tryz.func113, Tryz.ntmps113
  go_wp2_with fail
  go_ret
  exact ⟨rfl, rfl⟩
theorem meth_MasterDown (n : Nat) (a : Addr) (w : World) : (method (n + 1) 67 (.pointer (some a)) "Error").run Tryz.prog w = .ok (113, .pointer (some a)) w := by kernel_rfl
theorem ahead_MasterDown (n : Nat) (a : Addr) (w : World) : (nilAhead (n + 1) 67 (.pointer (some a)) "Error").run Tryz.prog w = .ok (some false) w := by kernel_rfl
theorem new_MasterDown (m : ByteArray) (w : World) : Calls Tryz.prog 49 #[.string m] w fun e w' => e = .returned (.pointer (some ⟨w.heap.size, 0, none⟩)) ∧ w' = w.alloc (.cells #[.string m] 118) := by
  go_enter Tryz.func49, Tryz.ntmps49
  go_wp2_with fail
  go_ret
  exact ⟨rfl, rfl⟩

theorem err_NoReplicas (m : ByteArray) (g : Nat) (w : World) (hb : w.heap[g]? = some (.cells #[.string m] 119 (0, 0))) : Calls Tryz.prog 125 #[.pointer (some ⟨g, 0, none⟩)] w fun e w' => e = .returned (.string m) ∧ w' = w := by
  have c0 : w.cell? ⟨g, 0, none⟩ = some (.string m) := blk_cell hb 0
  clear hb
  go_enter Tryz.func125, Tryz.ntmps125
  go_wp2_with fail
  go_ret
  exact ⟨rfl, rfl⟩
theorem meth_NoReplicas (n : Nat) (a : Addr) (w : World) : (method (n + 1) 79 (.pointer (some a)) "Error").run Tryz.prog w = .ok (125, .pointer (some a)) w := by kernel_rfl
theorem ahead_NoReplicas (n : Nat) (a : Addr) (w : World) : (nilAhead (n + 1) 79 (.pointer (some a)) "Error").run Tryz.prog w = .ok (some false) w := by kernel_rfl
theorem new_NoReplicas (m : ByteArray) (w : World) : Calls Tryz.prog 50 #[.string m] w fun e w' => e = .returned (.pointer (some ⟨w.heap.size, 0, none⟩)) ∧ w' = w.alloc (.cells #[.string m] 119) := by
  go_enter Tryz.func50, Tryz.ntmps50
  go_wp2_with fail
  go_ret
  exact ⟨rfl, rfl⟩

theorem err_MaxClients (m : ByteArray) (g : Nat) (w : World) (hb : w.heap[g]? = some (.cells #[.string m] 120 (0, 0))) : Calls Tryz.prog 115 #[.pointer (some ⟨g, 0, none⟩)] w fun e w' => e = .returned (.string m) ∧ w' = w := by
  have c0 : w.cell? ⟨g, 0, none⟩ = some (.string m) := blk_cell hb 0
  clear hb
  go_enter Tryz.func115, Tryz.ntmps115
  go_wp2_with fail
  go_ret
  exact ⟨rfl, rfl⟩
theorem meth_MaxClients (n : Nat) (a : Addr) (w : World) : (method (n + 1) 69 (.pointer (some a)) "Error").run Tryz.prog w = .ok (115, .pointer (some a)) w := by kernel_rfl
theorem ahead_MaxClients (n : Nat) (a : Addr) (w : World) : (nilAhead (n + 1) 69 (.pointer (some a)) "Error").run Tryz.prog w = .ok (some false) w := by kernel_rfl
theorem new_MaxClients (m : ByteArray) (w : World) : Calls Tryz.prog 51 #[.string m] w fun e w' => e = .returned (.pointer (some ⟨w.heap.size, 0, none⟩)) ∧ w' = w.alloc (.cells #[.string m] 120) := by
  go_enter Tryz.func51, Tryz.ntmps51
  go_wp2_with fail
  go_ret
  exact ⟨rfl, rfl⟩

theorem err_Auth (m : ByteArray) (g : Nat) (w : World) (hb : w.heap[g]? = some (.cells #[.string m] 121 (0, 0))) : Calls Tryz.prog 117 #[.pointer (some ⟨g, 0, none⟩)] w fun e w' => e = .returned (.string m) ∧ w' = w := by
  have c0 : w.cell? ⟨g, 0, none⟩ = some (.string m) := blk_cell hb 0
  clear hb
  go_enter Tryz.func117, Tryz.ntmps117
  go_wp2_with fail
  go_ret
  exact ⟨rfl, rfl⟩
theorem meth_Auth (n : Nat) (a : Addr) (w : World) : (method (n + 1) 71 (.pointer (some a)) "Error").run Tryz.prog w = .ok (117, .pointer (some a)) w := by kernel_rfl
theorem ahead_Auth (n : Nat) (a : Addr) (w : World) : (nilAhead (n + 1) 71 (.pointer (some a)) "Error").run Tryz.prog w = .ok (some false) w := by kernel_rfl
theorem new_Auth (m : ByteArray) (w : World) : Calls Tryz.prog 52 #[.string m] w fun e w' => e = .returned (.pointer (some ⟨w.heap.size, 0, none⟩)) ∧ w' = w.alloc (.cells #[.string m] 121) := by
  go_enter Tryz.func52, Tryz.ntmps52
  go_wp2_with fail
  go_ret
  exact ⟨rfl, rfl⟩

theorem err_Permission (m : ByteArray) (g : Nat) (w : World) (hb : w.heap[g]? = some (.cells #[.string m] 122 (0, 0))) : Calls Tryz.prog 119 #[.pointer (some ⟨g, 0, none⟩)] w fun e w' => e = .returned (.string m) ∧ w' = w := by
  have c0 : w.cell? ⟨g, 0, none⟩ = some (.string m) := blk_cell hb 0
  clear hb
  go_enter Tryz.func119, Tryz.ntmps119
  go_wp2_with fail
  go_ret
  exact ⟨rfl, rfl⟩
theorem meth_Permission (n : Nat) (a : Addr) (w : World) : (method (n + 1) 73 (.pointer (some a)) "Error").run Tryz.prog w = .ok (119, .pointer (some a)) w := by kernel_rfl
theorem ahead_Permission (n : Nat) (a : Addr) (w : World) : (nilAhead (n + 1) 73 (.pointer (some a)) "Error").run Tryz.prog w = .ok (some false) w := by kernel_rfl
theorem new_Permission (m : ByteArray) (w : World) : Calls Tryz.prog 53 #[.string m] w fun e w' => e = .returned (.pointer (some ⟨w.heap.size, 0, none⟩)) ∧ w' = w.alloc (.cells #[.string m] 122) := by
  go_enter Tryz.func53, Tryz.ntmps53
  go_wp2_with fail
  go_ret
  exact ⟨rfl, rfl⟩

theorem err_ExecAbort (m : ByteArray) (g : Nat) (w : World) (hb : w.heap[g]? = some (.cells #[.string m] 123 (0, 0))) : Calls Tryz.prog 121 #[.pointer (some ⟨g, 0, none⟩)] w fun e w' => e = .returned (.string m) ∧ w' = w := by
  have c0 : w.cell? ⟨g, 0, none⟩ = some (.string m) := blk_cell hb 0
  clear hb
  go_enter Tryz.func121, Tryz.ntmps121
  go_wp2_with fail
  go_ret
  exact ⟨rfl, rfl⟩
theorem meth_ExecAbort (n : Nat) (a : Addr) (w : World) : (method (n + 1) 75 (.pointer (some a)) "Error").run Tryz.prog w = .ok (121, .pointer (some a)) w := by kernel_rfl
theorem ahead_ExecAbort (n : Nat) (a : Addr) (w : World) : (nilAhead (n + 1) 75 (.pointer (some a)) "Error").run Tryz.prog w = .ok (some false) w := by kernel_rfl
theorem new_ExecAbort (m : ByteArray) (w : World) : Calls Tryz.prog 54 #[.string m] w fun e w' => e = .returned (.pointer (some ⟨w.heap.size, 0, none⟩)) ∧ w' = w.alloc (.cells #[.string m] 123) := by
  go_enter Tryz.func54, Tryz.ntmps54
  go_wp2_with fail
  go_ret
  exact ⟨rfl, rfl⟩

theorem err_OOM (m : ByteArray) (g : Nat) (w : World) (hb : w.heap[g]? = some (.cells #[.string m] 124 (0, 0))) : Calls Tryz.prog 123 #[.pointer (some ⟨g, 0, none⟩)] w fun e w' => e = .returned (.string m) ∧ w' = w := by
  have c0 : w.cell? ⟨g, 0, none⟩ = some (.string m) := blk_cell hb 0
  clear hb
  go_enter Tryz.func123, Tryz.ntmps123
  go_wp2_with fail
  go_ret
  exact ⟨rfl, rfl⟩
theorem meth_OOM (n : Nat) (a : Addr) (w : World) : (method (n + 1) 77 (.pointer (some a)) "Error").run Tryz.prog w = .ok (123, .pointer (some a)) w := by kernel_rfl
theorem ahead_OOM (n : Nat) (a : Addr) (w : World) : (nilAhead (n + 1) 77 (.pointer (some a)) "Error").run Tryz.prog w = .ok (some false) w := by kernel_rfl
theorem new_OOM (m : ByteArray) (w : World) : Calls Tryz.prog 55 #[.string m] w fun e w' => e = .returned (.pointer (some ⟨w.heap.size, 0, none⟩)) ∧ w' = w.alloc (.cells #[.string m] 124) := by
  go_enter Tryz.func55, Tryz.ntmps55
  go_wp2_with fail
  go_ret
  exact ⟨rfl, rfl⟩
end Go.Proofs.YtkogipaaioibaaaGreat

namespace Go.Proofs.YtkogipaaioibaaaGreat
set_option linter.unusedVariables false
set_option linter.unusedSimpArgs false
open Go.RowKit Go.Proofs.YtkogipaaioibaaaGreatW.PrintWords
/-- v is an error of class c with the text m (and the address a). -/
def EVal (w : World) (m a : ByteArray) (c : Nat) (v : Value) : Prop := match c with
  | 0 => ∃ g, v = .iface 53 (.pointer (some ⟨g, 0, none⟩)) ∧ w.heap[g]? = some (.cells #[.string m] 114 (0, 0))
  | 1 => ∃ g, v = .iface 57 (.pointer (some ⟨g, 0, none⟩)) ∧ w.heap[g]? = some (.cells #[.string m] 115 (0, 0))
  | 2 => ∃ g, v = .iface 38 (.pointer (some ⟨g, 0, none⟩)) ∧ w.heap[g]? = some (.cells #[.string m, .string a] 61 (0, 0))
  | 3 => ∃ g, v = .iface 42 (.pointer (some ⟨g, 0, none⟩)) ∧ w.heap[g]? = some (.cells #[.string m, .string a] 62 (0, 0))
  | 4 => ∃ g, v = .iface 63 (.pointer (some ⟨g, 0, none⟩)) ∧ w.heap[g]? = some (.cells #[.string m] 116 (0, 0))
  | 5 => ∃ g, v = .iface 65 (.pointer (some ⟨g, 0, none⟩)) ∧ w.heap[g]? = some (.cells #[.string m] 117 (0, 0))
  | 6 => ∃ g, v = .iface 67 (.pointer (some ⟨g, 0, none⟩)) ∧ w.heap[g]? = some (.cells #[.string m] 118 (0, 0))
  | 7 => ∃ g, v = .iface 79 (.pointer (some ⟨g, 0, none⟩)) ∧ w.heap[g]? = some (.cells #[.string m] 119 (0, 0))
  | 8 => ∃ g, v = .iface 69 (.pointer (some ⟨g, 0, none⟩)) ∧ w.heap[g]? = some (.cells #[.string m] 120 (0, 0))
  | 9 => ∃ g, v = .iface 71 (.pointer (some ⟨g, 0, none⟩)) ∧ w.heap[g]? = some (.cells #[.string m] 121 (0, 0))
  | 10 => ∃ g, v = .iface 73 (.pointer (some ⟨g, 0, none⟩)) ∧ w.heap[g]? = some (.cells #[.string m] 122 (0, 0))
  | 11 => ∃ g, v = .iface 75 (.pointer (some ⟨g, 0, none⟩)) ∧ w.heap[g]? = some (.cells #[.string m] 123 (0, 0))
  | 12 => ∃ g, v = .iface 77 (.pointer (some ⟨g, 0, none⟩)) ∧ w.heap[g]? = some (.cells #[.string m] 124 (0, 0))
  | _ => v = .iface 55 (.string m)
theorem EVal.keep {w w' : World} {m a : ByteArray} {c : Nat} {v : Value} (h : EVal w m a c v) (hk : ∀ (g : Nat) (cs : Array Value) (t : TypeId), w.heap[g]? = some (Obj.cells cs t (0, 0)) → t ≠ 9 → t ≠ 24 → w'.heap[g]? = some (Obj.cells cs t (0, 0))) : EVal w' m a c v := by
  unfold EVal at *
  split at h
  · obtain ⟨g, rfl, hb⟩ := h; exact ⟨g, rfl, hk _ _ _ hb (by decide) (by decide)⟩
  · obtain ⟨g, rfl, hb⟩ := h; exact ⟨g, rfl, hk _ _ _ hb (by decide) (by decide)⟩
  · obtain ⟨g, rfl, hb⟩ := h; exact ⟨g, rfl, hk _ _ _ hb (by decide) (by decide)⟩
  · obtain ⟨g, rfl, hb⟩ := h; exact ⟨g, rfl, hk _ _ _ hb (by decide) (by decide)⟩
  · obtain ⟨g, rfl, hb⟩ := h; exact ⟨g, rfl, hk _ _ _ hb (by decide) (by decide)⟩
  · obtain ⟨g, rfl, hb⟩ := h; exact ⟨g, rfl, hk _ _ _ hb (by decide) (by decide)⟩
  · obtain ⟨g, rfl, hb⟩ := h; exact ⟨g, rfl, hk _ _ _ hb (by decide) (by decide)⟩
  · obtain ⟨g, rfl, hb⟩ := h; exact ⟨g, rfl, hk _ _ _ hb (by decide) (by decide)⟩
  · obtain ⟨g, rfl, hb⟩ := h; exact ⟨g, rfl, hk _ _ _ hb (by decide) (by decide)⟩
  · obtain ⟨g, rfl, hb⟩ := h; exact ⟨g, rfl, hk _ _ _ hb (by decide) (by decide)⟩
  · obtain ⟨g, rfl, hb⟩ := h; exact ⟨g, rfl, hk _ _ _ hb (by decide) (by decide)⟩
  · obtain ⟨g, rfl, hb⟩ := h; exact ⟨g, rfl, hk _ _ _ hb (by decide) (by decide)⟩
  · obtain ⟨g, rfl, hb⟩ := h; exact ⟨g, rfl, hk _ _ _ hb (by decide) (by decide)⟩
  · rename_i h0 h1 h2 h3 h4 h5 h6 h7 h8 h9 h10 h11 h12
    exact h
/-- None of the marks of class x stands in the text. -/
def NoX (m : ByteArray) (x : Nat) : Prop := match x with
  | 1 => ¬ At (pre 1) m 0 ∧ ∀ j, ¬ At ronlyL m j
  | 9 => ¬ At (pre 9) m 0 ∧ ¬ At (pre 10) m 0 ∧ ∀ j, ¬ At unauth m j
  | 10 => ¬ At (pre 11) m 0
  | 11 => ¬ At (pre 12) m 0
  | 12 => ¬ At (pre 13) m 0
  | x => ¬ At (pre x) m 0
/-- What the question x answers of an error of class c. -/
def Bx (m : ByteArray) (c x : Nat) (b : Bool) : Prop := (b = true ∧ c = x) ∨ (b = false ∧ c ≠ x ∧ NoX m x) ∨ (x = 8 ∧ b = true ∧ c = 13 ∧ At (pre 8) m 0)
end Go.Proofs.YtkogipaaioibaaaGreat
