/- The Lean function of spec_UnpackFrame and its contract: the Go function comes to exactly what the Lean function answers (laid by the kit's print program). -/
import Derived.Test.YtnbhledkdkchlaaPAllx0
import Derived.Test.YtnbhledkdkchlaaPspecnumberOf
namespace Go.Proofs.Ytnbhledkdkchlaa.PAll
open Go.RowKit Go.Proofs.YtnbhledkdkchlaaW.PrintWords Go.Proofs.YtnbhledkdkchlaaW.PrintLast Go.Proofs.YtnbhledkdkchlaaW.PrintMore
attribute [local go_sem] max2_int min2_int max_two min_two max_three min_three max_four min_four   -- for this text's walks alone
set_option linter.unusedVariables false
set_option linter.unusedSimpArgs false


/-! ### spec_UnpackFrame: function 52 -/
def spec_UnpackFrame.f (k : Nat) (a0 : ByteArray) : Option (Int × ByteArray × Bool) := if (a0.size : Int) < 4 then (some (0, (⟨#[]⟩ : ByteArray), false)) else (if 0 ≤ 4 then (if 4 ≤ (a0.size : Int) then ((spec_numberOf.f k (a0.extract 0 4)).bind fun t180 => (some (wrap64 (wrap32 (t180)), a0.extract 4 a0.size, true))) else (none)) else (none))
theorem spec_UnpackFrame.mono : ∀ a0 k, LeO (spec_UnpackFrame.f k a0) (spec_UnpackFrame.f (k + 1) a0) := by
  intro a0 k
  unfold spec_UnpackFrame.f
  repeat' first
      | (with_reducible exact spec_numberOf.mono _ _)
      | (with_reducible exact LeO.refl _)
      | (with_reducible exact LeO.none _)
      | (with_reducible refine LeO.ite ?_ ?_)
      | (with_reducible refine LeO.bind ?_ (fun _ => ?_))
      | exact spec_numberOf.mono _ _
      | exact LeO.none _
      | refine LeO.ite ?_ ?_
      | refine LeO.bind ?_ (fun _ => ?_)
set_option maxHeartbeats 8000000 in
set_option maxRecDepth 100000 in
theorem spec_UnpackFrame.calls (k : Nat) (a0 : ByteArray) (r1 : Int) (r2 : ByteArray) (r3 : Bool) (w : World) (h : spec_UnpackFrame.f k a0 = some (r1, r2, r3)) :
    Calls Try.prog 52 #[.string a0] w fun e w' => e = .returned (.tuple #[.int .i64 r1, .string r2, .bool r3]) ∧ Drawn0 w w' := by
  have H : (if (a0.size : Int) < 4 then (some (0, (⟨#[]⟩ : ByteArray), false)) else (if 0 ≤ 4 then (if 4 ≤ (a0.size : Int) then ((spec_numberOf.f k (a0.extract 0 4)).bind fun t180 => (some (wrap64 (wrap32 (t180)), a0.extract 4 a0.size, true))) else (none)) else (none))) = some (r1, r2, r3) := h
  clear h
  by_cases c2 : (a0.size : Int) < 4
  · rw [if_pos c2] at H
    have c2b0 : decide ((a0.size : Int) < 4) = true := decide_eq_true c2
    have c2b1 : decide (a0.size < 4) = true := decide_eq_true (by omega)
    clear c2
    simp only [Option.some.injEq, Prod.mk.injEq] at H
    obtain ⟨rfl, rfl, rfl⟩ := H
    go_enter Try.func52, Try.ntmps52
    go_wp2
    repeat (go_quiet (fail); try go_wp2)
    go_ret3
    exact ⟨by first | rfl | (simp; done) | (simp [*]; done), by repeat (first | exact Drawn0.refl _ | apply Drawn0.step)⟩
  · rw [if_neg c2] at H
    have c2b0 : decide ((a0.size : Int) < 4) = false := decide_eq_false c2
    have c2b1 : decide (a0.size < 4) = false := decide_eq_false (by omega)
    clear c2
    by_cases c3 : 0 ≤ 4
    · rw [if_pos c3] at H
      have c3b0 := eq_true c3
      have c3b1 : decide (0 ≤ 4) = true := decide_eq_true c3
      clear c3
      by_cases c4 : 4 ≤ (a0.size : Int)
      · rw [if_pos c4] at H
        have c4b0 := eq_true c4
        have c4b1 : decide (4 ≤ (a0.size : Int)) = true := decide_eq_true c4
        clear c4
        replace H := Option.bind_eq_some_iff.mp H
        obtain ⟨t180, A50, H⟩ := H
        replace H : (some (wrap64 (wrap32 (t180)), a0.extract 4 a0.size, true)) = some (r1, r2, r3) := H
        have A5 := Aside0.mk A50
        clear A50
        have c6b0 := eq_true (of_decide_eq_true (by first | (with_reducible assumption) | assumption) : 4 ≤ (a0.size : Int))
        simp only [Option.some.injEq, Prod.mk.injEq] at H
        obtain ⟨rfl, rfl, rfl⟩ := H
        go_enter Try.func52, Try.ntmps52
        go_wp2_with (first | (go_at_call 70; (with_reducible refine (spec_numberOf.calls k (a0.extract 0 4) t180 _ A5.out).mono ?_); rintro e w' ⟨rfl, ⟨nd, rfl⟩⟩; (try first | exact ⟨rfl, _, World.drewN_drewN _ _ _⟩ | exact ⟨rfl, _, Eq.trans (World.drewN_drewN _ _ _) (congrArg (World.drewN _) (Nat.add_assoc _ _ _))⟩)))
        repeat (go_quiet (first | (go_at_call 70; (with_reducible refine (spec_numberOf.calls k (a0.extract 0 4) t180 _ A5.out).mono ?_); rintro e w' ⟨rfl, ⟨nd, rfl⟩⟩; (try first | exact ⟨rfl, _, World.drewN_drewN _ _ _⟩ | exact ⟨rfl, _, Eq.trans (World.drewN_drewN _ _ _) (congrArg (World.drewN _) (Nat.add_assoc _ _ _))⟩))); try go_wp2_with (first | (go_at_call 70; (with_reducible refine (spec_numberOf.calls k (a0.extract 0 4) t180 _ A5.out).mono ?_); rintro e w' ⟨rfl, ⟨nd, rfl⟩⟩; (try first | exact ⟨rfl, _, World.drewN_drewN _ _ _⟩ | exact ⟨rfl, _, Eq.trans (World.drewN_drewN _ _ _) (congrArg (World.drewN _) (Nat.add_assoc _ _ _))⟩))))
        go_ret3
        exact ⟨by first | rfl | (simp; done) | (simp [*]; done), by repeat (first | exact Drawn0.refl _ | apply Drawn0.step)⟩
      · rw [if_neg c4] at H
        exact absurd H (by simp)
    · rw [if_neg c3] at H
      exact absurd H (by simp)

end Go.Proofs.Ytnbhledkdkchlaa.PAll
