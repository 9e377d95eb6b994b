/- The Lean function of spec_Present and its contract: the Go function comes to exactly what the Lean function answers (laid by the kit's print program). -/
import Derived.Test.YtnbhledkdkchlaaPAllx0
import Derived.Test.YtnbhledkdkchlaaPspectag
namespace Go.Proofs.Ytnbhledkdkchlaa.PAll
open Go.RowKit Go.Proofs.YtnbhledkdkchlaaW.PrintWords Go.Proofs.YtnbhledkdkchlaaW.PrintLast Go.Proofs.YtnbhledkdkchlaaW.PrintMore
attribute [local go_sem] max2_int min2_int max_two min_two max_three min_three max_four min_four   -- for this text's walks alone
set_option linter.unusedVariables false
set_option linter.unusedSimpArgs false
-- NOT PRINTED: function 90 (bytealg_IndexByteString)

-- NOT PRINTED: function 73 (stringslite_IndexByte)

-- NOT PRINTED: function 57 (strings_IndexByte)

-- NOT PRINTED: function 37 (hashtag_Key)

-- NOT PRINTED: function 14 (impl_Key)

/-! ### spec_Present: function 17 -/
def spec_Present.f (k : Nat) (a0 : ByteArray) : Option (Bool) := (spec_tag.f k a0).bind fun bt103 => (some bt103.2)
theorem spec_Present.mono : ∀ a0 k, LeO (spec_Present.f k a0) (spec_Present.f (k + 1) a0) := by
  intro a0 k
  unfold spec_Present.f
  repeat' first
      | (with_reducible exact spec_tag.mono _ _)
      | (with_reducible exact LeO.refl _)
      | (with_reducible exact LeO.none _)
      | (with_reducible refine LeO.ite ?_ ?_)
      | (with_reducible refine LeO.bind ?_ (fun _ => ?_))
      | exact spec_tag.mono _ _
      | exact LeO.none _
      | refine LeO.ite ?_ ?_
      | refine LeO.bind ?_ (fun _ => ?_)
set_option maxHeartbeats 8000000 in
set_option maxRecDepth 100000 in
theorem spec_Present.calls (k : Nat) (a0 : ByteArray) (r : Bool) (w : World) (h : spec_Present.f k a0 = some r) :
    Calls Try.prog 17 #[.string a0] w fun e w' => e = .returned (.bool r) ∧ Drawn0 w w' := by
  have H : ((spec_tag.f k a0).bind fun bt103 => (some bt103.2)) = some r := h
  clear h
  replace H := Option.bind_eq_some_iff.mp H
  obtain ⟨⟨t103, t104⟩, A20, H⟩ := H
  replace H : (some t104) = some r := H
  have A2 := Aside0.mk A20
  clear A20
  obtain rfl := Option.some.inj H
  go_enter Try.func17, Try.ntmps17
  go_wp2_with (first | ((with_reducible refine gate_callee (f := 38) rfl ?_); refine goesL_ (some 7) rfl rfl Try.func38 (by kernel_rfl) rfl #[.string a0] rfl (by (try simp only [List.map_toArray, List.map_cons, List.map_nil]); first | done | rfl | (simp only [List.length_drop, List.length_take]; rfl)) ?_; (with_reducible refine (spec_tag.calls k a0 t103 t104 _ A2.out).mono ?_); rintro e w' ⟨rfl, ⟨nd, rfl⟩⟩; refine ⟨_, rfl, ?_⟩))
  go_ret
  exact ⟨by first | rfl | (simp; done) | (simp [*]; done), by repeat (first | exact Drawn0.refl _ | apply Drawn0.step)⟩

end Go.Proofs.Ytnbhledkdkchlaa.PAll
