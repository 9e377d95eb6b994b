/- The law FnSlot answers true of every key. -/
import Derived.Test.YtjnookhdiolhgaaPackA
import Derived.Test.YtjnookhdiolhgaaSlotLaw
namespace Go.Proofs.Ytjnookhdiolhgaa
open Go.RowKit Go.Proofs.YtjnookhdiolhgaaW.PrintWords

set_option maxHeartbeats 2000000 in
theorem FnSlot_walk (s : ByteArray) (w : World) (hs : s.size ≤ 140737488351232) :
    Calls Try.prog 5 #[.string s] w fun e w' => e = .returned (.bool true) ∧ Below w.heap.size w w' := by
  by_cases h1 : s.size ≤ 200
  case neg =>
    have h1' : 200 < s.size := by omega
    go_enter Try.func5, Try.ntmps5
    go_wp2_with fail
    all_goals
      go_ret
      exact ⟨rfl, Below.refl _ _⟩
  have h1' : (s.size : Int) ≤ 200 := by omega
  by_cases h2 : s.toList = []
  · have h2' : (s.toList == []) = true := by rw [h2]; rfl
    go_enter Try.func5, Try.ntmps5
    go_wp2_with fail
    go_ret
    exact ⟨rfl, Below.refl _ _⟩
  · have h2' : (s.toList == []) = false := beq_eq_false_iff_ne.mpr h2
    have hS := fun w => PAll.spec_Slot.calls (10 * s.size + 3) s _ _ w (Slot_spec s hs h2 _ (by omega))
    have hI := fun w => slot_any s w hs
    have hlt := slotN_lt s
    obtain ⟨n, hn⟩ : ∃ n : Int, (slotN s : Int) = n := ⟨_, rfl⟩
    rw [hn] at hS
    simp only [hn] at hI
    have hn0 : 0 ≤ n := by omega
    have hn1 : n < 16384 := by omega
    have HS := Lib.hid hS
    have HI := Lib.hid hI
    clear hS hI hlt hn h2
    go_enter Try.func5, Try.ntmps5
    go_wp2_with fail
    refine (HS.out _).mono ?_
    rintro e w1 ⟨rfl, ⟨nd, rfl⟩⟩
    go_wp2_with fail
    refine (HI.out _).mono ?_
    rintro e w2 ⟨rfl, ⟨nd2, rfl⟩⟩
    go_wp2_with fail
    refine (alive_any _).mono ?_
    rintro e w3 ⟨rfl, hb⟩
    have HB := Lib.hid hb
    clear hb
    go_wp2_with fail
    go_ret
    exact ⟨rfl, (pw_below_drewN (Below.refl w.heap.size w) _).trans HB.out⟩
end Go.Proofs.Ytjnookhdiolhgaa
