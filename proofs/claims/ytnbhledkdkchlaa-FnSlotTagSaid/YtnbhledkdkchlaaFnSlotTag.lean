/- FnSlotTag: the walk. -/
import Derived.Test.YtnbhledkdkchlaaFnSlotKey
import Derived.Deep.LoopGhost
namespace Go.Proofs.Ytnbhledkdkchlaa
open Go.RowKit Go.Proofs.YtnbhledkdkchlaaW.PrintWords

theorem idx_at {c : UInt8} {r : List UInt8} : ∀ {p : List UInt8}, (∀ x ∈ p, x ≠ c) → Lib.indexByte (p ++ c :: r) c = p.length
  | [], _ => by simp [Lib.indexByte]
  | x :: p, h => by
    have hx : (x == c) = false := by simpa using h x (by simp)
    have hi := idx_at (c := c) (r := r) (p := p) (fun y hy => h y (by simp [hy]))
    have hn : ((p.length : Int) == -1) = false := by simp
    simp only [List.cons_append, Lib.indexByte, hx, Bool.false_eq_true, if_false, hi, hn, List.length_cons]
    omega
theorem idx_no {c : UInt8} : ∀ {p : List UInt8}, (∀ x ∈ p, x ≠ c) → Lib.indexByte p c = -1
  | [], _ => by simp [Lib.indexByte]
  | x :: p, h => by
    have hx : (x == c) = false := by simpa using h x (by simp)
    have hi := idx_no (c := c) (p := p) (fun y hy => h y (by simp [hy]))
    simp [Lib.indexByte, hx, hi]

/-- No byte of a text is this one. -/
def Free (s : ByteArray) (c : UInt8) : Prop := ∀ x ∈ s.data.toList, x ≠ c

theorem free_of {s : ByteArray} {c : Nat} (h : ∀ (q : Nat) (hq : q < s.size), ¬ (s[q].toNat : Int) = (c : Int)) (hc : c < 256) : Free s (UInt8.ofNat c) := by
  intro x hx e
  obtain ⟨q, hq, rfl⟩ := List.getElem_of_mem hx
  have hq' : q < s.size := by rw [size_toList] at hq; exact hq
  apply h q hq'
  have e2 : s[q] = s.data.toList[q] := rfl
  rw [e2, e, UInt8.toNat_ofNat']
  omega

/-- A key with a tag. -/
def tagged (a tag b : ByteArray) : ByteArray := a ++ ⟨#[123]⟩ ++ tag ++ ⟨#[125]⟩ ++ b
theorem tagged_list (a tag b : ByteArray) : (tagged a tag b).data.toList = a.data.toList ++ 123 :: (tag.data.toList ++ 125 :: b.data.toList) := by
  simp [tagged]

theorem tagged_piece (a tag b : ByteArray) : ((tagged a tag b).extract (a.size + 1) (tagged a tag b).size).data.toList = tag.data.toList ++ 125 :: b.data.toList := by
  rw [Lib.extract_data, List.take_of_length_le (by rw [List.length_drop, size_toList]; omega), tagged_list]
  rw [← size_toList a, List.drop_append]
  simp
theorem ofData {a b : ByteArray} (h : a.data.toList = b.data.toList) : a = b := by
  cases a; cases b
  simp at h
  rw [h]

theorem keyB_tagged (a tag b : ByteArray) (ha : Free a 123) (ht : Free tag 125) (hn : 0 < tag.size) : keyB (tagged a tag b) = tag ∧ hasTag (tagged a tag b) = true := by
  have h1 : Lib.indexByte (tagged a tag b).data.toList 123 = a.size := by rw [tagged_list, idx_at ha, size_toList]
  have h2 : Lib.indexByte ((tagged a tag b).extract (a.size + 1) (tagged a tag b).size).data.toList 125 = tag.size := by rw [tagged_piece, idx_at ht, size_toList]
  constructor
  · unfold keyB
    rw [h1, if_pos (by omega), Int.toNat_natCast, h2, if_pos (by omega), Int.toNat_natCast]
    apply ofData
    rw [Lib.extract_data, tagged_list, ← size_toList a, List.drop_append]
    simp
    rw [List.drop_of_length_le (by rw [size_toList]; omega), List.nil_append, ← size_toList tag]
    exact List.take_left
  · unfold hasTag
    rw [h1, if_pos (by omega), Int.toNat_natCast, h2]
    simp; omega
theorem keyB_free (s : ByteArray) (h : Free s 123) : keyB s = s := by
  unfold keyB
  rw [idx_no h, if_neg (by decide)]
theorem slotN_tagged (a tag b : ByteArray) (ha : Free a 123) (ht : Free tag 125) (ho : Free tag 123) (hn : 0 < tag.size) : slotN (tagged a tag b) = slotN tag := by
  unfold slotN
  rw [if_neg (by rw [tagged_list]; simp), if_neg (by intro h; have := size_toList tag; rw [h] at this; simp at this; omega), (keyB_tagged a tag b ha ht hn).1, keyB_free tag ho]

set_option maxHeartbeats 4000000 in
theorem FnSlotTag_walk (tag a b : ByteArray) (w : World) (hs1 : tag.size ≤ 140737488351232) (hs2 : a.size ≤ 140737488351232) (hs3 : b.size ≤ 140737488351232) :
    Calls Try.prog 4 #[.string tag, .string a, .string b] w fun e w' => e = .returned (.bool true) ∧ Below w.heap.size w w' := by
  by_cases h1 : tag.size + a.size + b.size ≤ 300
  case neg =>
    have h1' : (300 : Int) < tag.size + a.size + b.size := by omega
    have e1 : wrap64 ((tag.size : Int) + a.size) = tag.size + a.size := by unfold wrap64; omega
    have e2 : wrap64 ((tag.size : Int) + a.size + b.size) = tag.size + a.size + b.size := by unfold wrap64; omega
    go_enter Try.func4, Try.ntmps4
    go_wp2_with fail
    all_goals
      first
        | (go_ret; exact ⟨rfl, Below.refl _ _⟩)
        | omega
  have h1' : (tag.size : Int) + a.size + b.size ≤ 300 := by omega
  have ha3 : (tag.size : Int) ≤ 300 := by omega
  have hb3 : (a.size : Int) ≤ 300 := by omega
  have hc3 : (b.size : Int) ≤ 300 := by omega
  by_cases h2 : tag.toList = []
  · have h2' : (tag.toList == []) = true := by rw [h2]; rfl
    go_enter Try.func4, Try.ntmps4
    go_wp2_with fail
    go_ret
    exact ⟨rfl, Below.refl _ _⟩
  have h2' : (tag.toList == []) = false := beq_eq_false_iff_ne.mpr h2
  go_enter Try.func4, Try.ntmps4
  go_wp2_with fail
  go_loopg [38] tag.size (fun gk v wr => ∃ j : Nat, v = .int .i64 j ∧ wr = w ∧ Aside0 (j ≤ tag.size ∧ gk = tag.size - j ∧ ∀ (q : Nat) (hq : q < tag.size), q < j → ¬ (tag[q].toNat : Int) = 123 ∧ ¬ (tag[q].toNat : Int) = 125))
  case atStart => exact ⟨0, rfl, rfl, ⟨by omega, by omega, by omega⟩⟩
  case round =>
    obtain ⟨j, rfl, rfl, HJ⟩ := hrel
    by_cases hj : j < tag.size
    · go_wp2_with fail
      · go_ret
        exact ⟨rfl, Below.refl _ _⟩
      · go_ret
        exact ⟨rfl, Below.refl _ _⟩
      · go_roundg (tag.size - (j + 1))
        case measure => have := HJ.out; omega
        case rel =>
          refine ⟨j + 1, by go_num, rfl, ⟨by omega, rfl, fun q hq hqj => ?_⟩⟩
          by_cases hqm : q < j
          · exact HJ.out.2.2 q hq hqm
          · have : q = j := by omega
            subst this
            rename_i e1 e2
            simp at e2
            exact ⟨e1, e2.2⟩
    · have hje : j = tag.size := by have := HJ.out.1; omega
      subst hje
      have HT := Aside0.mk HJ.out.2.2
      clear HJ
      go_wp2_with fail
      go_loopg [54] a.size (fun gk v wr' => ∃ j : Nat, v = .int .i64 j ∧ wr' = wr ∧ Aside0 (j ≤ a.size ∧ gk = a.size - j ∧ ∀ (q : Nat) (hq : q < a.size), q < j → ¬ (a[q].toNat : Int) = 123))
      case atStart => exact ⟨0, rfl, rfl, ⟨by omega, by omega, by omega⟩⟩
      case round =>
        obtain ⟨j, rfl, rfl, HJ⟩ := hrel
        by_cases hj2 : j < a.size
        · go_wp2_with fail
          · go_ret
            exact ⟨rfl, Below.refl _ _⟩
          · go_roundg (a.size - (j + 1))
            case measure => have := HJ.out; omega
            case rel =>
              refine ⟨j + 1, by go_num, rfl, ⟨by omega, rfl, fun q hq hqj => ?_⟩⟩
              by_cases hqm : q < j
              · exact HJ.out.2.2 q hq hqm
              · have : q = j := by omega
                subst this
                rename_i e1
                simpa using e1
        · have hje : j = a.size := by have := HJ.out.1; omega
          subst hje
          have hn : 0 < tag.size := by
            rcases Nat.eq_zero_or_pos tag.size with h | h
            · exfalso; apply h2; rw [ByteArray.toList_eq]; apply List.eq_nil_of_length_eq_zero; rw [size_toList]; exact h
            · exact h
          have fa : Free a 123 := free_of (fun q hq => HJ.out.2.2 q hq hq) (by decide)
          have ft : Free tag 123 := free_of (fun q hq => (HT.out q hq hq).1) (by decide)
          have fc : Free tag 125 := free_of (fun q hq => (HT.out q hq hq).2) (by decide)
          have hsz : (tagged a tag b).size ≤ 140737488351232 := by rw [← size_toList, tagged_list]; simp; omega
          have hK := fun w => implKey_any (tagged a tag b) w hsz
          have hP := fun w => implPresent_any (tagged a tag b) w hsz
          have hS := fun w => slot_any (tagged a tag b) w hsz
          have hS2 := fun w => slot_any tag w hs1
          have hsz3 : (tagged ⟨#[]⟩ tag ⟨#[]⟩).size ≤ 140737488351232 := by rw [← size_toList, tagged_list]; simp; omega
          have hS3 := fun w => slot_any (tagged ⟨#[]⟩ tag ⟨#[]⟩) w hsz3
          rw [(keyB_tagged a tag b fa fc hn).1] at hK
          rw [(keyB_tagged a tag b fa fc hn).2] at hP
          rw [slotN_tagged a tag b fa fc ft hn] at hS
          rw [slotN_tagged ⟨#[]⟩ tag ⟨#[]⟩ (by intro x h; simp at h) fc ft hn] at hS3
          have hE : tagged ⟨#[]⟩ tag ⟨#[]⟩ = ⟨#[123]⟩ ++ tag ++ ⟨#[125]⟩ := by
            apply ofData
            rw [tagged_list]
            simp
          rw [hE] at hS3
          unfold tagged at hK hP hS
          have HK := Lib.hid hK
          have HP := Lib.hid hP
          have HS := Lib.hid hS
          have HS2 := Lib.hid hS2
          have HS3 := Lib.hid hS3
          clear hK hP hS hS2 hS3 hE hsz hsz3 fa ft fc HT HJ
          go_wp2_with fail
          refine (HK.out _).mono ?_
          rintro e w1 ⟨rfl, rfl⟩
          go_wp2_with fail
          refine (HP.out _).mono ?_
          rintro e w2 ⟨rfl, rfl⟩
          go_wp2_with fail
          refine (HS.out _).mono ?_
          rintro e w3 ⟨rfl, ⟨nd, rfl⟩⟩
          go_wp2_with fail
          refine (HS2.out _).mono ?_
          rintro e w4 ⟨rfl, ⟨nd2, rfl⟩⟩
          go_wp2_with fail
          refine (HS3.out _).mono ?_
          rintro e w5 ⟨rfl, ⟨nd3, rfl⟩⟩
          go_wp2_with fail
          refine (HS.out _).mono ?_
          rintro e w6 ⟨rfl, ⟨nd4, rfl⟩⟩
          go_wp2_with fail
          refine (alive_any _).mono ?_
          rintro e w7 ⟨rfl, hb⟩
          have HB := Lib.hid hb
          clear hb
          go_wp2_with fail
          go_ret
          exact ⟨rfl, (pw_below_drewN (Below.refl _ _) _).trans HB.out⟩
end Go.Proofs.Ytnbhledkdkchlaa
