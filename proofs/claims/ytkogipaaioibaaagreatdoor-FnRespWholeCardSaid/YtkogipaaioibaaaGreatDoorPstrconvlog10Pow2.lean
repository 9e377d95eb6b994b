/- The Lean function of strconv_log10Pow2 and its contract: the Go function comes to exactly what the Lean function answers (laid by the kit's print program). -/
import Derived.Test.YtkogipaaioibaaaGreatDoorPAllx0
namespace Go.Proofs.YtkogipaaioibaaaGreatDoor.PAll
open Go.RowKit Go.Proofs.YtkogipaaioibaaaGreatDoorW.PrintWords Go.Proofs.YtkogipaaioibaaaGreatDoorW.PrintLast Go.Proofs.YtkogipaaioibaaaGreatDoorW.PrintMore
attribute [local go_sem] max2_int min2_int max_two min_two max_three min_three max_four min_four   -- for this text's walks alone
set_option linter.unusedVariables false
set_option linter.unusedSimpArgs false


/-! ### strconv_log10Pow2: function 92 -/
def strconv_log10Pow2.f (a0 : Int) : Option (Int) := some ((wrap64 (a0 * 78913)) / 262144)
set_option maxHeartbeats 8000000 in
set_option maxRecDepth 100000 in
theorem strconv_log10Pow2.calls (a0 : Int) (r : Int) (w : World) (h : strconv_log10Pow2.f a0 = some r) :
    Calls Tryz.prog 92 #[.int .i64 a0] w fun e w' => e = .returned (.int .i64 r) ∧ Drawn0 w w' := by
  have H : (some ((wrap64 (a0 * 78913)) / 262144)) = some r := h
  clear h
  obtain rfl := Option.some.inj H
  go_enter Tryz.func92, Tryz.ntmps92
  go_wp2
  go_ret
  exact ⟨by first | rfl | (simp; done) | (simp [*]; done), by repeat (first | exact Drawn0.refl _ | apply Drawn0.step)⟩

end Go.Proofs.YtkogipaaioibaaaGreatDoor.PAll
