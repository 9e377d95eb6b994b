/- The Lean function of impl_ChannelName and its contract: the Go function comes to exactly what the Lean function answers (laid by the kit's print program). -/
import Derived.Test.YtnbhledkdkchlaaPAllx0
import Derived.Test.YtnbhledkdkchlaaPgonsqIsValidChannelName
namespace Go.Proofs.Ytnbhledkdkchlaa.PAll
open Go.RowKit Go.Proofs.YtnbhledkdkchlaaW.PrintWords Go.Proofs.YtnbhledkdkchlaaW.PrintLast Go.Proofs.YtnbhledkdkchlaaW.PrintMore
attribute [local go_sem] max2_int min2_int max_two min_two max_three min_three max_four min_four   -- for this text's walks alone
set_option linter.unusedVariables false
set_option linter.unusedSimpArgs false


/-! ### impl_ChannelName: function 24 -/
def impl_ChannelName.f (k : Nat) (a0 : ByteArray) : Option (Bool) := (gonsq_IsValidChannelName.f k a0).bind fun t140 => (some t140)
theorem impl_ChannelName.mono : ∀ a0 k, LeO (impl_ChannelName.f k a0) (impl_ChannelName.f (k + 1) a0) := by
  intro a0 k
  unfold impl_ChannelName.f
  repeat' first
      | (with_reducible exact gonsq_IsValidChannelName.mono _ _)
      | (with_reducible exact LeO.refl _)
      | (with_reducible exact LeO.none _)
      | (with_reducible refine LeO.ite ?_ ?_)
      | (with_reducible refine LeO.bind ?_ (fun _ => ?_))
      | exact gonsq_IsValidChannelName.mono _ _
      | exact LeO.none _
      | refine LeO.ite ?_ ?_
      | refine LeO.bind ?_ (fun _ => ?_)
set_option maxHeartbeats 8000000 in
set_option maxRecDepth 100000 in
theorem impl_ChannelName.calls (k : Nat) (a0 : ByteArray) (r : Bool) (w : World) (h : impl_ChannelName.f k a0 = some r) :
    Calls Try.prog 24 #[.string a0] w fun e w' => e = .returned (.bool r) ∧ Drawn0 w w' := by
  have H : ((gonsq_IsValidChannelName.f k a0).bind fun t140 => (some t140)) = some r := h
  clear h
  replace H := Option.bind_eq_some_iff.mp H
  obtain ⟨t140, A20, H⟩ := H
  replace H : (some t140) = some r := H
  have A2 := Aside0.mk A20
  clear A20
  obtain rfl := Option.some.inj H
  go_enter Try.func24, Try.ntmps24
  go_wp2_with (first | ((with_reducible refine gate_callee (f := 45) rfl ?_); refine goesL_ (some 4) rfl rfl Try.func45 (by kernel_rfl) rfl #[.string a0] rfl (by (try simp only [List.map_toArray, List.map_cons, List.map_nil]); first | done | rfl | (simp only [List.length_drop, List.length_take]; rfl)) ?_; (with_reducible refine (gonsq_IsValidChannelName.calls k a0 t140 _ A2.out).mono ?_); rintro e w' ⟨rfl, ⟨nd, rfl⟩⟩; refine ⟨_, rfl, ?_⟩))
  go_ret
  exact ⟨by first | rfl | (simp; done) | (simp [*]; done), by repeat (first | exact Drawn0.refl _ | apply Drawn0.step)⟩

-- NOT PRINTED: function 6 (laws_FnNames)

end Go.Proofs.Ytnbhledkdkchlaa.PAll
