/- The Lean function of source_Uint16 and its contract: the Go function comes to exactly what the Lean function answers (laid by the kit's print program). -/
import Derived.Test.YtjnookhdiolhgaaPAllx0
namespace Go.Proofs.Ytjnookhdiolhgaa.PAll
open Go.RowKit Go.Proofs.YtjnookhdiolhgaaW.PrintWords Go.Proofs.YtjnookhdiolhgaaW.PrintLast Go.Proofs.YtjnookhdiolhgaaW.PrintMore
attribute [local go_sem] max2_int min2_int max_two min_two max_three min_three max_four min_four   -- for this text's walks alone
set_option linter.unusedVariables false
set_option linter.unusedSimpArgs false


/-! ### source_Uint16: function 113 -/
def source_Uint16.f (l0 : List Int) : Option (Int) := if 1 < (l0.length : Int) then (if 0 < (l0.length : Int) then (some (Go.bits .or .u16 (IntKind.u16.wrap (rd l0 1)) (IntKind.u16.wrap ((IntKind.u16.wrap (rd l0 0)) * 256)))) else (none)) else (none)
set_option maxHeartbeats 8000000 in
set_option maxRecDepth 100000 in
theorem source_Uint16.calls (A0 : Option Addr) (c0 : Nat) (l0 : List Int) (r : Int) (w : World) (hr0 : Kd.C (Kd.int .u8) w A0 l0.length l0) (hc0 : l0.length ≤ c0) (h : source_Uint16.f l0 = some r) :
    Calls Try.prog 113 #[.slice A0 l0.length c0] w fun e w' => e = .returned (.int .u16 r) ∧ Drawn0 w w' := by
  have HR0 := Aside0.mk hr0
  have HC0 := Aside0.mk hc0
  clear hr0 hc0
  have H : (if 1 < (l0.length : Int) then (if 0 < (l0.length : Int) then (some (Go.bits .or .u16 (IntKind.u16.wrap (rd l0 1)) (IntKind.u16.wrap ((IntKind.u16.wrap (rd l0 0)) * 256)))) else (none)) else (none)) = some r := h
  clear h
  by_cases c2 : 1 < (l0.length : Int)
  · rw [if_pos c2] at H
    have c2b0 : decide (1 < (l0.length : Int)) = true := decide_eq_true c2
    have c2b1 : decide (1 < l0.length) = true := decide_eq_true (by omega)
    clear c2
    by_cases c3 : 0 < (l0.length : Int)
    · rw [if_pos c3] at H
      have c3b0 : decide (0 < (l0.length : Int)) = true := decide_eq_true c3
      have c3b1 : decide (0 < l0.length) = true := decide_eq_true (by omega)
      clear c3
      obtain rfl := Option.some.inj H
      have p200 : 0 ≤ (1 : Int) := (by omega)
      have q200 : 1 < (l0.length : Int) := of_decide_eq_true (by first | (with_reducible assumption) | assumption)
      obtain ⟨ad200, e200, hx200_0⟩ := Kd.at_int HR0.out 1 p200 q200
      cases e200
      (try simp only [show (1 : Int).toNat = 1 from rfl, Nat.reduceMul, Nat.reduceEqDiff, Go.Addr.add, ↓reduceIte] at hx200_0)
      have qi200 : (1 < l0.length) = True := eq_true (by omega)
      (try rw [show ((1 : Int)).toNat = 1 from rfl] at hx200_0)
      replace p200 := eq_true p200
      replace q200 := eq_true q200
      have p201 : 0 ≤ (0 : Int) := (by omega)
      have q201 : 0 < (l0.length : Int) := of_decide_eq_true (by first | (with_reducible assumption) | assumption)
      obtain ⟨ad201, e201, hx201_0⟩ := Kd.at_int HR0.out 0 p201 q201
      obtain rfl : ad200 = ad201 := (by injection e201)
      have qi201 : (0 < l0.length) = True := eq_true (by omega)
      (try rw [show ((0 : Int)).toNat = 0 from rfl] at hx201_0)
      (try rw [Addr.add_zero'] at hx201_0)
      replace p201 := eq_true p201
      replace q201 := eq_true q201
      go_enter Try.func113, Try.ntmps113
      go_wp2
      repeat (go_quiet (fail); try go_wp2)
      go_ret
      exact ⟨by first | rfl | (simp; done) | (simp [*]; done), by repeat (first | exact Drawn0.refl _ | apply Drawn0.step)⟩
    · rw [if_neg c3] at H
      exact absurd H (by simp)
  · rw [if_neg c2] at H
    exact absurd H (by simp)

end Go.Proofs.Ytjnookhdiolhgaa.PAll
