/- FnNames: what the package and the reference take for a name. -/
import Derived.Test.YtnbhledkdkchlaaTagLaw
import Derived.Test.YtnbhledkdkchlaaPimplTopicName
import Derived.Test.YtnbhledkdkchlaaPimplChannelName
import Derived.Test.YtnbhledkdkchlaaPspecTopicName
import Derived.Test.YtnbhledkdkchlaaPspecChannelName
namespace Go.Proofs.Ytnbhledkdkchlaa
open Go.RowKit
open PAll
open Go.Proofs.YtnbhledkdkchlaaW.PrintWords (bt bt_at Drawn0)

/-- A sign of a name. -/
def Sign (c : Int) : Prop := c = 46 ∨ c = 95 ∨ c = 45 ∨ (48 ≤ c ∧ c ≤ 57) ∨ (97 ≤ c ∧ c ≤ 122) ∨ (65 ≤ c ∧ c ≤ 90)
instance (c : Int) : Decidable (Sign c) := by unfold Sign; infer_instance

theorem valid_good (k : Nat) (t : ByteArray) (n : Int) (i : Nat) (h0 : (i : Int) < n) (h1 : i < t.size) (hg : Sign (bt t i)) : gonsq_validTopicChannelName.l0 (k + 1) t n i = gonsq_validTopicChannelName.l0 k t n (wrap64 ((i : Int) + 1)) := by
  rw [gonsq_validTopicChannelName.l0, if_pos h0, if_pos (by omega), if_pos (by omega)]
  unfold Sign at hg
  generalize bt t (i : Int) = c at *
  generalize gonsq_validTopicChannelName.l0 k t n (wrap64 ((i : Int) + 1)) = r
  repeat' split
  all_goals first | rfl | (exfalso; omega)
theorem valid_bad (k : Nat) (t : ByteArray) (n : Int) (i : Nat) (h0 : (i : Int) < n) (h1 : i < t.size) (hg : ¬ Sign (bt t i)) : gonsq_validTopicChannelName.l0 (k + 1) t n i = some false := by
  rw [gonsq_validTopicChannelName.l0, if_pos h0, if_pos (by omega), if_pos (by omega)]
  unfold Sign at hg
  generalize bt t (i : Int) = c at *
  generalize gonsq_validTopicChannelName.l0 k t n (wrap64 ((i : Int) + 1)) = r
  repeat' split
  all_goals first | rfl | (exfalso; omega)
theorem named_good (k : Nat) (t : ByteArray) (n : Int) (i : Nat) (h0 : (i : Int) < n) (h1 : i < t.size) (hg : Sign (bt t i)) : spec_named.l0 (k + 1) t n i = spec_named.l0 k t n (wrap64 ((i : Int) + 1)) := by
  rw [spec_named.l0, if_pos h0, if_pos (by omega), if_pos (by omega)]
  unfold Sign at hg
  generalize bt t (i : Int) = c at *
  generalize spec_named.l0 k t n (wrap64 ((i : Int) + 1)) = r
  repeat' split
  all_goals first | rfl | (exfalso; omega)
theorem named_bad (k : Nat) (t : ByteArray) (n : Int) (i : Nat) (h0 : (i : Int) < n) (h1 : i < t.size) (hg : ¬ Sign (bt t i)) : spec_named.l0 (k + 1) t n i = some (false, 1) := by
  rw [spec_named.l0, if_pos h0, if_pos (by omega), if_pos (by omega)]
  unfold Sign at hg
  generalize bt t (i : Int) = c at *
  generalize spec_named.l0 k t n (wrap64 ((i : Int) + 1)) = r
  repeat' split
  all_goals first | rfl | (exfalso; omega)
theorem both_from (t : ByteArray) (ht : t.size ≤ 64) (d : Nat) : ∀ i : Nat, i ≤ t.size → t.size - i = d → ∃ r : Bool, gonsq_validTopicChannelName.l0 (d + 1) t (t.size : Int) i = some (r && (t.toList != [])) ∧ spec_named.l0 (d + 1) t (t.size : Int) i = some (r, 1) := by
  induction d with
  | zero =>
    intro i hi hd
    refine ⟨true, ?_, ?_⟩
    · rw [gonsq_validTopicChannelName.l0, if_neg (by omega)]; rfl
    · rw [spec_named.l0, if_neg (by omega)]
  | succ d ih =>
    intro i hi hd
    have e : wrap64 ((i : Int) + 1) = ((i + 1 : Nat) : Int) := by unfold wrap64; omega
    by_cases hg : Sign (bt t i)
    · obtain ⟨r, h1, h2⟩ := ih (i + 1) (by omega) (by omega)
      refine ⟨r, ?_, ?_⟩
      · rw [valid_good _ t _ i (by omega) (by omega) hg, e, h1]
      · rw [named_good _ t _ i (by omega) (by omega) hg, e, h2]
    · exact ⟨false, by rw [valid_bad _ t _ i (by omega) (by omega) hg]; rfl, by rw [named_bad _ t _ i (by omega) (by omega) hg]⟩

theorem notnil (s : ByteArray) (h : 0 < s.size) : (s.toList != []) = true := by
  rw [bne_iff_ne]
  intro e
  have := size_toList s
  rw [← ByteArray.toList_eq, e] at this
  simp at this
  omega

theorem names_eq (s : ByteArray) : ∃ r : Bool, ∃ k : Nat, ∃ m : Nat, gonsq_isValidName.f k s = some r ∧ spec_named.f m s = some (r, 1) := by
  by_cases h64 : (s.size : Int) > 64
  · refine ⟨false, 1, 1, ?_, ?_⟩
    · unfold gonsq_isValidName.f; rw [if_pos h64]
    · unfold spec_named.f; rw [if_pos h64]; rfl
  · by_cases h1 : (s.size : Int) < 1
    · refine ⟨false, 1, 1, ?_, ?_⟩
      · unfold gonsq_isValidName.f; rw [if_neg h64, if_pos h1]
      · have he : (s.toList == ([] : List UInt8)) = true := by
          rw [beq_iff_eq, ByteArray.toList_eq]
          apply List.eq_nil_of_length_eq_zero
          rw [size_toList]; omega
        unfold spec_named.f; rw [if_neg h64, he]; rfl
    · have hn : (s.toList == ([] : List UInt8)) = false := by have := notnil s (by omega); simpa [bne] using this
      have ew : (10 : Int) ≤ s.size → wrap64 ((s.size : Int) - 10) = ((s.size - 10 : Nat) : Int) := by intro h; unfold wrap64; omega
      have keep : ∀ t : ByteArray, t = s → strings_TrimSuffix.f s (⟨#[35, 101, 112, 104, 101, 109, 101, 114, 97, 108]⟩ : ByteArray) = some t → (∀ k, spec_named.j0 (k + 2) s false = spec_named.j2 k s) →
          ∃ r : Bool, ∃ k : Nat, ∃ m : Nat, gonsq_isValidName.f k s = some r ∧ spec_named.f m s = some (r, 1) := by
        intro t et h2 h3
        obtain ⟨r, a, b⟩ := both_from s (by omega) s.size 0 (by omega) (by omega)
        rw [notnil s (by omega), Bool.and_true] at a
        refine ⟨r, s.size + 1, s.size + 4, ?_, ?_⟩
        · unfold gonsq_isValidName.f gonsq_validTopicChannelName.f
          rw [if_neg h64, if_neg h1, h2, et]
          simp only [Option.bind_some]
          have e0 : ((0 : Nat) : Int) = 0 := rfl
          rw [e0] at a
          rw [a]
          rfl
        · unfold spec_named.f
          rw [if_neg h64, hn, h3, spec_named.j2]
          exact b
      by_cases h10 : (10 : Int) < s.size
      · by_cases hs : ((s.extract (s.size - 10) s.size).toList == ([35, 101, 112, 104, 101, 109, 101, 114, 97, 108] : List UInt8)) = true
        · obtain ⟨r, a, b⟩ := both_from (s.extract 0 (s.size - 10)) (by rw [ByteArray.size_extract]; omega) (s.extract 0 (s.size - 10)).size 0 (by omega) (by omega)
          rw [notnil _ (by rw [ByteArray.size_extract]; omega), Bool.and_true] at a
          have h2 : strings_TrimSuffix.f s (⟨#[35, 101, 112, 104, 101, 109, 101, 114, 97, 108]⟩ : ByteArray) = some (s.extract 0 (s.size - 10)) := by
            have e10 : ((⟨#[35, 101, 112, 104, 101, 109, 101, 114, 97, 108]⟩ : ByteArray).size : Int) = 10 := rfl
            have el : (⟨#[35, 101, 112, 104, 101, 109, 101, 114, 97, 108]⟩ : ByteArray).toList = [35, 101, 112, 104, 101, 109, 101, 114, 97, 108] := by rw [ByteArray.toList_eq]
            unfold strings_TrimSuffix.f stringslite_TrimSuffix.f stringslite_HasSuffix.f
            rw [e10, el, ew (by omega), if_pos (by omega), if_pos (by omega), if_pos (by omega), Int.toNat_natCast, hs]
            simp only [Option.bind_some, if_true]
            rw [if_pos (by omega), if_pos (by omega)]
            rfl
          refine ⟨r, (s.extract 0 (s.size - 10)).size + 1, (s.extract 0 (s.size - 10)).size + 4, ?_, ?_⟩
          · unfold gonsq_isValidName.f gonsq_validTopicChannelName.f
            rw [if_neg h64, if_neg h1, h2]
            simp only [Option.bind_some]
            have e0 : ((0 : Nat) : Int) = 0 := rfl
            rw [e0] at a
            rw [a]
            rfl
          · unfold spec_named.f
            rw [if_neg h64, hn, spec_named.j0, if_neg (by decide), if_pos (by omega), ew (by omega), if_pos (by omega), if_pos (by omega), Int.toNat_natCast, hs, spec_named.j1, if_pos rfl, ew (by omega), if_pos (by omega), if_pos (by omega), Int.toNat_natCast, spec_named.j2]
            exact b
        · have hs' : ((s.extract (s.size - 10) s.size).toList == ([35, 101, 112, 104, 101, 109, 101, 114, 97, 108] : List UInt8)) = false := by simpa using hs
          refine keep s rfl ?_ ?_
          · have e10 : ((⟨#[35, 101, 112, 104, 101, 109, 101, 114, 97, 108]⟩ : ByteArray).size : Int) = 10 := rfl
            have el : (⟨#[35, 101, 112, 104, 101, 109, 101, 114, 97, 108]⟩ : ByteArray).toList = [35, 101, 112, 104, 101, 109, 101, 114, 97, 108] := by rw [ByteArray.toList_eq]
            unfold strings_TrimSuffix.f stringslite_TrimSuffix.f stringslite_HasSuffix.f
            rw [e10, el, ew (by omega), if_pos (by omega), if_pos (by omega), if_pos (by omega), Int.toNat_natCast, hs']
            rfl
          · intro k
            rw [spec_named.j0, if_neg (by decide), if_pos (by omega), ew (by omega), if_pos (by omega), if_pos (by omega), Int.toNat_natCast, hs', spec_named.j1, if_neg (by decide)]
      · have h3 : ∀ k, spec_named.j0 (k + 2) s false = spec_named.j2 k s := by
          intro k
          rw [spec_named.j0, if_neg (by decide), if_neg (by omega), spec_named.j1, if_neg (by decide)]
        have e10 : ((⟨#[35, 101, 112, 104, 101, 109, 101, 114, 97, 108]⟩ : ByteArray).size : Int) = 10 := rfl
        have el : (⟨#[35, 101, 112, 104, 101, 109, 101, 114, 97, 108]⟩ : ByteArray).toList = [35, 101, 112, 104, 101, 109, 101, 114, 97, 108] := by rw [ByteArray.toList_eq]
        by_cases h9 : (s.size : Int) < 10
        · refine keep s rfl ?_ h3
          unfold strings_TrimSuffix.f stringslite_TrimSuffix.f stringslite_HasSuffix.f
          rw [e10, if_neg (by omega)]
          rfl
        · have hsz : s.size = 10 := by omega
          by_cases hs : ((s.extract 0 s.size).toList == ([35, 101, 112, 104, 101, 109, 101, 114, 97, 108] : List UInt8)) = true
          · have hl : s.data.toList = [35, 101, 112, 104, 101, 109, 101, 114, 97, 108] := by
              have := beq_iff_eq.1 hs
              rw [ByteArray.toList_eq, Lib.extract_data, List.drop_zero, List.take_of_length_le (by rw [size_toList]; omega)] at this
              exact this
            have hb : ¬ Sign (bt s ((0 : Nat) : Int)) := by
              have h0 : bt s ((0 : Nat) : Int) = 35 := by
                rw [bt_nat s 0 (by omega)]
                have e2 : s[0] = s.data.toList[0]'(by rw [hl]; decide) := rfl
                rw [e2]
                simp only [hl]
                rfl
              rw [h0]
              decide
            have h2 : strings_TrimSuffix.f s (⟨#[35, 101, 112, 104, 101, 109, 101, 114, 97, 108]⟩ : ByteArray) = some (s.extract 0 0) := by
              unfold strings_TrimSuffix.f stringslite_TrimSuffix.f stringslite_HasSuffix.f
              have ez : s.size - 10 = 0 := by omega
              rw [e10, el, ew (by omega), ez, if_pos (by omega), if_pos (by omega), if_pos (by omega), Int.toNat_natCast, hs]
              simp only [Option.bind_some, if_true]
              rw [if_pos (by omega), if_pos (by omega)]
              rfl
            refine ⟨false, 1, 4, ?_, ?_⟩
            · unfold gonsq_isValidName.f gonsq_validTopicChannelName.f
              have e0 : (s.extract 0 0) = ⟨#[]⟩ := by
                apply Go.WideShapes.bytes_inj
                rw [Lib.extract_data]
                simp
              rw [if_neg h64, if_neg h1, h2, e0]
              simp only [Option.bind_some]
              rw [gonsq_validTopicChannelName.l0, if_neg (by decide), ByteArray.toList_eq]
              rfl
            · unfold spec_named.f
              rw [if_neg h64, hn, h3, spec_named.j2]
              exact named_bad 0 s _ 0 (by omega) (by omega) hb
          · have hs' : ((s.extract 0 s.size).toList == ([35, 101, 112, 104, 101, 109, 101, 114, 97, 108] : List UInt8)) = false := by simpa using hs
            refine keep s rfl ?_ h3
            unfold strings_TrimSuffix.f stringslite_TrimSuffix.f stringslite_HasSuffix.f
            have ez : s.size - 10 = 0 := by omega
            rw [e10, el, ew (by omega), ez, if_pos (by omega), if_pos (by omega), if_pos (by omega), Int.toNat_natCast, hs']
            rfl
end Go.Proofs.Ytnbhledkdkchlaa
