/- The Lean function of source_Uint32 and its contract: the Go function comes to exactly what the Lean function answers (laid by the kit's print program). -/
import Derived.Test.YtnbhledkdkchlaaPAllx0
namespace Go.Proofs.Ytnbhledkdkchlaa.PAll
open Go.RowKit Go.Proofs.YtnbhledkdkchlaaW.PrintWords Go.Proofs.YtnbhledkdkchlaaW.PrintLast Go.Proofs.YtnbhledkdkchlaaW.PrintMore
attribute [local go_sem] max2_int min2_int max_two min_two max_three min_three max_four min_four   -- for this text's walks alone
set_option linter.unusedVariables false
set_option linter.unusedSimpArgs false
-- NOT PRINTED: function 90 (bytealg_IndexByteString)

-- NOT PRINTED: function 73 (stringslite_IndexByte)

-- NOT PRINTED: function 57 (strings_IndexByte)

-- NOT PRINTED: function 37 (hashtag_Key)

-- NOT PRINTED: function 14 (impl_Key)

/-! ### source_Uint32: function 72 -/
def source_Uint32.f (l0 : List Int) : Option (Int) := if 3 < (l0.length : Int) then (if 2 < (l0.length : Int) then (if 1 < (l0.length : Int) then (if 0 < (l0.length : Int) then (some (Go.bits .or .u32 (Go.bits .or .u32 (Go.bits .or .u32 ((rd l0 3) % 4294967296) ((((rd l0 2) % 4294967296) * 256) % 4294967296)) ((((rd l0 1) % 4294967296) * 65536) % 4294967296)) ((((rd l0 0) % 4294967296) * 16777216) % 4294967296))) else (none)) else (none)) else (none)) else (none)
set_option maxHeartbeats 8000000 in
set_option maxRecDepth 100000 in
theorem source_Uint32.calls (A0 : Option Addr) (c0 : Nat) (l0 : List Int) (r : Int) (w : World) (hr0 : Kd.C (Kd.int .u8) w A0 l0.length l0) (hc0 : l0.length ≤ c0) (h : source_Uint32.f l0 = some r) :
    Calls Try.prog 72 #[.slice A0 l0.length c0] w fun e w' => e = .returned (.int .u32 r) ∧ Drawn0 w w' := by
  have HR0 := Aside0.mk hr0
  have HC0 := Aside0.mk hc0
  clear hr0 hc0
  have H : (if 3 < (l0.length : Int) then (if 2 < (l0.length : Int) then (if 1 < (l0.length : Int) then (if 0 < (l0.length : Int) then (some (Go.bits .or .u32 (Go.bits .or .u32 (Go.bits .or .u32 ((rd l0 3) % 4294967296) ((((rd l0 2) % 4294967296) * 256) % 4294967296)) ((((rd l0 1) % 4294967296) * 65536) % 4294967296)) ((((rd l0 0) % 4294967296) * 16777216) % 4294967296))) else (none)) else (none)) else (none)) else (none)) = some r := h
  clear h
  by_cases c2 : 3 < (l0.length : Int)
  · rw [if_pos c2] at H
    have c2b0 : decide (3 < (l0.length : Int)) = true := decide_eq_true c2
    have c2b1 : decide (3 < l0.length) = true := decide_eq_true (by omega)
    clear c2
    by_cases c3 : 2 < (l0.length : Int)
    · rw [if_pos c3] at H
      have c3b0 : decide (2 < (l0.length : Int)) = true := decide_eq_true c3
      have c3b1 : decide (2 < l0.length) = true := decide_eq_true (by omega)
      clear c3
      by_cases c4 : 1 < (l0.length : Int)
      · rw [if_pos c4] at H
        have c4b0 : decide (1 < (l0.length : Int)) = true := decide_eq_true c4
        have c4b1 : decide (1 < l0.length) = true := decide_eq_true (by omega)
        clear c4
        by_cases c5 : 0 < (l0.length : Int)
        · rw [if_pos c5] at H
          have c5b0 : decide (0 < (l0.length : Int)) = true := decide_eq_true c5
          have c5b1 : decide (0 < l0.length) = true := decide_eq_true (by omega)
          clear c5
          obtain rfl := Option.some.inj H
          have p119 : 0 ≤ (3 : Int) := (by omega)
          have q119 : 3 < (l0.length : Int) := of_decide_eq_true (by first | (with_reducible assumption) | assumption)
          obtain ⟨ad119, e119, hx119_0⟩ := Kd.at_int HR0.out 3 p119 q119
          cases e119
          (try simp only [show (3 : Int).toNat = 3 from rfl, Nat.reduceMul, Nat.reduceEqDiff, Go.Addr.add, ↓reduceIte] at hx119_0)
          have qi119 : (3 < l0.length) = True := eq_true (by omega)
          (try rw [show ((3 : Int)).toNat = 3 from rfl] at hx119_0)
          replace p119 := eq_true p119
          replace q119 := eq_true q119
          have p120 : 0 ≤ (2 : Int) := (by omega)
          have q120 : 2 < (l0.length : Int) := of_decide_eq_true (by first | (with_reducible assumption) | assumption)
          obtain ⟨ad120, e120, hx120_0⟩ := Kd.at_int HR0.out 2 p120 q120
          obtain rfl : ad119 = ad120 := (by injection e120)
          (try simp only [show (2 : Int).toNat = 2 from rfl, Nat.reduceMul, Nat.reduceEqDiff, Go.Addr.add, ↓reduceIte] at hx120_0)
          have qi120 : (2 < l0.length) = True := eq_true (by omega)
          (try rw [show ((2 : Int)).toNat = 2 from rfl] at hx120_0)
          replace p120 := eq_true p120
          replace q120 := eq_true q120
          have p121 : 0 ≤ (1 : Int) := (by omega)
          have q121 : 1 < (l0.length : Int) := of_decide_eq_true (by first | (with_reducible assumption) | assumption)
          obtain ⟨ad121, e121, hx121_0⟩ := Kd.at_int HR0.out 1 p121 q121
          obtain rfl : ad119 = ad121 := (by injection e121)
          (try simp only [show (1 : Int).toNat = 1 from rfl, Nat.reduceMul, Nat.reduceEqDiff, Go.Addr.add, ↓reduceIte] at hx121_0)
          have qi121 : (1 < l0.length) = True := eq_true (by omega)
          (try rw [show ((1 : Int)).toNat = 1 from rfl] at hx121_0)
          replace p121 := eq_true p121
          replace q121 := eq_true q121
          have p122 : 0 ≤ (0 : Int) := (by omega)
          have q122 : 0 < (l0.length : Int) := of_decide_eq_true (by first | (with_reducible assumption) | assumption)
          obtain ⟨ad122, e122, hx122_0⟩ := Kd.at_int HR0.out 0 p122 q122
          obtain rfl : ad119 = ad122 := (by injection e122)
          have qi122 : (0 < l0.length) = True := eq_true (by omega)
          (try rw [show ((0 : Int)).toNat = 0 from rfl] at hx122_0)
          (try rw [Addr.add_zero'] at hx122_0)
          replace p122 := eq_true p122
          replace q122 := eq_true q122
          go_enter Try.func72, Try.ntmps72
          go_wp2
          repeat (go_quiet (fail); try go_wp2)
          go_ret
          exact ⟨by first | rfl | (simp; done) | (simp [*]; done), by repeat (first | exact Drawn0.refl _ | apply Drawn0.step)⟩
        · rw [if_neg c5] at H
          exact absurd H (by simp)
      · rw [if_neg c4] at H
        exact absurd H (by simp)
    · rw [if_neg c3] at H
      exact absurd H (by simp)
  · rw [if_neg c2] at H
    exact absurd H (by simp)

end Go.Proofs.Ytnbhledkdkchlaa.PAll
