/- FnNames: the walk. -/
import Derived.Test.YtnbhledkdkchlaaAlive
import Derived.Test.YtnbhledkdkchlaaNames
namespace Go.Proofs.Ytnbhledkdkchlaa
open Go.RowKit Go.Proofs.YtnbhledkdkchlaaW.PrintWords

set_option maxHeartbeats 2000000 in
theorem FnNames_walk (s : ByteArray) (w : World) (hs : s.size ≤ 140737488351232) :
    Calls Try.prog 6 #[.string s] w fun e w' => e = .returned (.bool true) ∧ Below w.heap.size w w' := by
  by_cases h1 : s.size ≤ 100
  case neg =>
    have h1' : 100 < s.size := by omega
    go_enter Try.func6, Try.ntmps6
    go_wp2_with fail
    all_goals
      go_ret
      exact ⟨rfl, Below.refl _ _⟩
  have h1' : (s.size : Int) ≤ 100 := by omega
  obtain ⟨r, k, m, hi, hn⟩ := names_eq s
  have e1 : PAll.impl_TopicName.f k s = some r := by unfold PAll.impl_TopicName.f PAll.gonsq_IsValidTopicName.f; rw [hi]; rfl
  have e2 : PAll.impl_ChannelName.f k s = some r := by unfold PAll.impl_ChannelName.f PAll.gonsq_IsValidChannelName.f; rw [hi]; rfl
  have e3 : PAll.spec_TopicName.f m s = some (r, 1) := by unfold PAll.spec_TopicName.f; rw [hn]; rfl
  have e4 : PAll.spec_ChannelName.f m s = some (r, 1) := by unfold PAll.spec_ChannelName.f; rw [hn]; rfl
  have HIT := Lib.hid (fun w => PAll.impl_TopicName.calls k s r w e1)
  have HIC := Lib.hid (fun w => PAll.impl_ChannelName.calls k s r w e2)
  have HST := Lib.hid (fun w => PAll.spec_TopicName.calls m s r 1 w e3)
  have HSC := Lib.hid (fun w => PAll.spec_ChannelName.calls m s r 1 w e4)
  clear e1 e2 e3 e4 hi hn
  go_enter Try.func6, Try.ntmps6
  go_wp2_with fail
  refine (HST.out _).mono ?_
  rintro e w1 ⟨rfl, ⟨nd, rfl⟩⟩
  go_wp2_with fail
  refine (HSC.out _).mono ?_
  rintro e w2 ⟨rfl, ⟨nd2, rfl⟩⟩
  go_wp2_with fail
  refine (HIT.out _).mono ?_
  rintro e w3 ⟨rfl, ⟨nd3, rfl⟩⟩
  go_wp2_with fail
  refine (HIC.out _).mono ?_
  rintro e w4 ⟨rfl, ⟨nd4, rfl⟩⟩
  go_wp2_with fail
  refine (alive_any _).mono ?_
  rintro e w5 ⟨rfl, hb⟩
  have HB := Lib.hid hb
  clear hb
  go_wp2_with fail
  go_ret
  exact ⟨rfl, (pw_below_drewN (Below.refl w.heap.size w) _).trans HB.out⟩
end Go.Proofs.Ytnbhledkdkchlaa
