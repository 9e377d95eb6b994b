/- FnSlotKey: the walk. -/
import Derived.Test.YtnbhledkdkchlaaAlive
import Derived.Test.YtnbhledkdkchlaaTagLaw
namespace Go.Proofs.Ytnbhledkdkchlaa
open Go.RowKit Go.Proofs.YtnbhledkdkchlaaW.PrintWords

set_option maxHeartbeats 1000000 in
theorem present_ne (s : ByteArray) (w : World) (hs : s.size ≤ 140737488351232) (hne : (s.toList == []) = false) :
    Calls Try.prog 39 #[.string s] w fun e w' => e = .returned (.bool (hasTag s)) ∧ w = w' := by
  have c123 : (123 : Int).toNat.toUInt8 = 123 := rfl
  have c125 : (125 : Int).toNat.toUInt8 = 125 := rfl
  have hge := Lib.indexByte_ge s.data.toList 123
  by_cases hi : -1 < Lib.indexByte s.data.toList 123
  · obtain ⟨i, hi'⟩ : ∃ i : Nat, Lib.indexByte s.data.toList 123 = i := ⟨(Lib.indexByte s.data.toList 123).toNat, by omega⟩
    have hlt : i < s.size := by
      have h1 := (Lib.indexByte_some hi').1
      rcases Nat.lt_or_ge i s.size with h | h
      · exact h
      · rw [List.getElem?_eq_none (by rw [Array.length_toList]; exact h)] at h1
        cases h1
    have hge2 := Lib.indexByte_ge (s.extract (i + 1) s.size).data.toList 125
    have hk : hasTag s = decide (0 < Lib.indexByte (s.extract (i + 1) s.size).data.toList 125) := by
      unfold hasTag
      rw [if_pos hi, hi']
      rfl
    rw [hk]
    have H1 := indexByte_any s 123
    rw [c123, hi'] at H1
    have H2 := indexByte_any (s.extract (i + 1) s.size) 125
    rw [c125] at H2
    have h0 : (-1 : Int) < (i : Int) := by omega
    by_cases he : 0 < Lib.indexByte (s.extract (i + 1) s.size).data.toList 125
    · rw [decide_eq_true he]
      rcases Lib.indexByte_piece s (i + 1) s.size 125 with hx | ⟨o, ho, hol⟩
      · omega
      · rw [ho] at H2 he
        have ho0 : 0 < o := by omega
        have HH1 := Lib.hid H1
        have HH2 := Lib.hid H2
        clear H1 H2 hi hi' hk hge hge2 ho c123 c125
        go_enter Try.func39, Try.ntmps39
        go_wp2_with fail
        refine (HH1.out _).mono ?_
        rintro e w' ⟨rfl, rfl⟩
        go_wp2_with fail
        refine (HH2.out _).mono ?_
        rintro e w' ⟨rfl, rfl⟩
        go_wp2_with fail
        go_ret
        exact ⟨rfl, rfl⟩
    · rw [decide_eq_false he]
      generalize Lib.indexByte (s.extract (i + 1) s.size).data.toList 125 = o at *
      have ho : ¬ 0 < o := he
      have HH1 := Lib.hid H1
      have HH2 := Lib.hid H2
      clear H1 H2 hi hi' hk hge c123 c125
      go_enter Try.func39, Try.ntmps39
      go_wp2_with fail
      refine (HH1.out _).mono ?_
      rintro e w' ⟨rfl, rfl⟩
      go_wp2_with fail
      refine (HH2.out _).mono ?_
      rintro e w' ⟨rfl, rfl⟩
      go_wp2_with fail
      go_ret
      exact ⟨rfl, rfl⟩
  · have hk : hasTag s = false := by unfold hasTag; rw [if_neg hi]
    rw [hk]
    have H1 := indexByte_any s 123
    rw [c123] at H1
    generalize Lib.indexByte s.data.toList 123 = o at *
    have HH1 := Lib.hid H1
    clear H1 hk c123 c125
    go_enter Try.func39, Try.ntmps39
    go_wp2_with fail
    refine (HH1.out _).mono ?_
    rintro e w' ⟨rfl, rfl⟩
    go_wp2_with fail
    go_ret
    exact ⟨rfl, rfl⟩

set_option maxHeartbeats 1000000 in
theorem present_any (s : ByteArray) (w : World) (hs : s.size ≤ 140737488351232) :
    Calls Try.prog 39 #[.string s] w fun e w' => e = .returned (.bool (hasTag s)) ∧ w = w' := by
  by_cases he : s.toList = []
  · have hd : s.data.toList = [] := by rw [← ByteArray.toList_eq]; exact he
    have hr : hasTag s = false := by
      unfold hasTag
      rw [hd, if_neg (by decide)]
    rw [hr]
    have he2 : (s.toList == []) = true := by rw [he]; rfl
    clear hr hd
    go_enter Try.func39, Try.ntmps39
    go_wp2_with fail
    go_ret
    exact ⟨rfl, rfl⟩
  · exact present_ne s w hs (beq_eq_false_iff_ne.mpr he)

set_option maxHeartbeats 1000000 in
theorem implKey_any (s : ByteArray) (w : World) (hs : s.size ≤ 140737488351232) :
    Calls Try.prog 14 #[.string s] w fun e w' => e = .returned (.string (keyB s)) ∧ w = w' := by
  have HI := Lib.hid (fun w => key_any s w hs)
  go_enter Try.func14, Try.ntmps14
  go_wp2_with fail
  refine (HI.out _).mono ?_
  rintro e w1 ⟨rfl, rfl⟩
  go_wp2_with fail
  go_ret
  exact ⟨rfl, rfl⟩
set_option maxHeartbeats 1000000 in
theorem implPresent_any (s : ByteArray) (w : World) (hs : s.size ≤ 140737488351232) :
    Calls Try.prog 16 #[.string s] w fun e w' => e = .returned (.bool (hasTag s)) ∧ w = w' := by
  have HI := Lib.hid (fun w => present_any s w hs)
  go_enter Try.func16, Try.ntmps16
  go_wp2_with fail
  refine (HI.out _).mono ?_
  rintro e w1 ⟨rfl, rfl⟩
  go_wp2_with fail
  go_ret
  exact ⟨rfl, rfl⟩

set_option maxHeartbeats 2000000 in
theorem FnSlotKey_walk (s : ByteArray) (w : World) (hs : s.size ≤ 140737488351232) :
    Calls Try.prog 3 #[.string s] w fun e w' => e = .returned (.bool true) ∧ Below w.heap.size w w' := by
  by_cases h1 : s.size ≤ 200
  case neg =>
    have h1' : 200 < s.size := by omega
    go_enter Try.func3, Try.ntmps3
    go_wp2_with fail
    all_goals
      go_ret
      exact ⟨rfl, Below.refl _ _⟩
  have h1' : (s.size : Int) ≤ 200 := by omega
  have hK := fun w => PAll.spec_Key.calls (s.size + 2) s _ w (Key_spec s hs _ (by omega))
  have hP := fun w => PAll.spec_Present.calls (s.size + 2) s _ w (Present_spec s hs _ (by omega))
  have hI := fun w => implKey_any s w hs
  have hJ := fun w => implPresent_any s w hs
  generalize keyB s = kk at *
  generalize hasTag s = tt at *
  have HK := Lib.hid hK
  have HP := Lib.hid hP
  have HI := Lib.hid hI
  have HJ := Lib.hid hJ
  clear hK hP hI hJ
  go_enter Try.func3, Try.ntmps3
  go_wp2_with fail
  refine (HI.out _).mono ?_
  rintro e w1 ⟨rfl, rfl⟩
  go_wp2_with fail
  refine (HK.out _).mono ?_
  rintro e w2 ⟨rfl, ⟨nd, rfl⟩⟩
  go_wp2_with fail
  refine (HJ.out _).mono ?_
  rintro e w3 ⟨rfl, rfl⟩
  go_wp2_with fail
  refine (HP.out _).mono ?_
  rintro e w4 ⟨rfl, ⟨nd2, rfl⟩⟩
  go_wp2_with fail
  refine (alive_any _).mono ?_
  rintro e w5 ⟨rfl, hb⟩
  have HB := Lib.hid hb
  clear hb
  go_wp2_with fail
  go_ret
  exact ⟨rfl, (pw_below_drewN (Below.refl w.heap.size w) _).trans HB.out⟩
end Go.Proofs.Ytnbhledkdkchlaa
