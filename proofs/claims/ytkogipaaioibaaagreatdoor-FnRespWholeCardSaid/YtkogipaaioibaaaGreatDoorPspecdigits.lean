/- The Lean function of spec_digits and its contract: the Go function comes to exactly what the Lean function answers (laid by the kit's print program). -/
import Derived.Test.YtkogipaaioibaaaGreatDoorPAllx0
namespace Go.Proofs.YtkogipaaioibaaaGreatDoor.PAll
open Go.RowKit Go.Proofs.YtkogipaaioibaaaGreatDoorW.PrintWords Go.Proofs.YtkogipaaioibaaaGreatDoorW.PrintLast Go.Proofs.YtkogipaaioibaaaGreatDoorW.PrintMore
attribute [local go_sem] max2_int min2_int max_two min_two max_three min_three max_four min_four   -- for this text's walks alone
set_option linter.unusedVariables false
set_option linter.unusedSimpArgs false


/-! ### spec_digits: function 45 -/
mutual
def spec_digits.j0 : Nat → ByteArray → Bool → Option (Bool)
  | 0, _, _ => none
  | k + 1, x0, x10 => if x10 = true then (if 1 ≤ (x0.size : Int) then (if (x0.extract 1 x0.size).toList = ([48] : List UInt8) then (some false) else (spec_digits.j1 k (x0.extract 1 x0.size))) else (none)) else (spec_digits.j1 k x0)
def spec_digits.j1 : Nat → ByteArray → Option (Bool)
  | 0, _ => none
  | k + 1, x0 => spec_digits.l0 k x0 (x0.size : Int) 0
def spec_digits.l0 : Nat → ByteArray → Int → Int → Option (Bool)
  | 0, _, _, _ => none
  | k + 1, x0, x16, x17 => if x17 < x16 then (if 0 ≤ x17 then (if x17 < (x0.size : Int) then (if (bt x0 x17) < 48 then (some false) else (if (bt x0 x17) > 57 then (some false) else (spec_digits.l0 k x0 x16 (wrap64 (x17 + 1))))) else (none)) else (none)) else (if x0.toList = ([] : List UInt8) then (some false) else (if x0.toList = ([48] : List UInt8) then (some true) else (if 0 < (x0.size : Int) then (some ((bt x0 0) != 48)) else (none))))
end
def spec_digits.f (k : Nat) (a0 : ByteArray) : Option (Bool) := if a0.toList = ([] : List UInt8) then (spec_digits.j0 k a0 false) else (if 0 < (a0.size : Int) then (spec_digits.j0 k a0 ((bt a0 0) == 45)) else (none))
theorem spec_digits.mono_l : ∀ k, (∀ y0 y1, LeO (spec_digits.j0 k y0 y1) (spec_digits.j0 (k + 1) y0 y1)) ∧ (∀ y0, LeO (spec_digits.j1 k y0) (spec_digits.j1 (k + 1) y0)) ∧ (∀ y0 y1 y2, LeO (spec_digits.l0 k y0 y1 y2) (spec_digits.l0 (k + 1) y0 y1 y2))
  | 0 => ⟨fun _ _ r h => by simp [spec_digits.j0] at h, fun _ r h => by simp [spec_digits.j1] at h, fun _ _ _ r h => by simp [spec_digits.l0] at h⟩
  | k + 1 => by
    obtain ⟨ih0, ih1, ih2⟩ := spec_digits.mono_l k
    refine ⟨?_, ?_, ?_⟩
    · intro y0 y1
      unfold spec_digits.j0
      repeat' first
      | (with_reducible exact ih0 _ _)
      | (with_reducible exact ih1 _)
      | (with_reducible exact ih2 _ _ _)
      | (with_reducible exact LeO.refl _)
      | (with_reducible exact LeO.none _)
      | (with_reducible refine LeO.ite ?_ ?_)
      | (with_reducible refine LeO.bind ?_ (fun _ => ?_))
      | exact ih0 _ _
      | exact ih1 _
      | exact ih2 _ _ _
      | exact LeO.none _
      | refine LeO.ite ?_ ?_
      | refine LeO.bind ?_ (fun _ => ?_)
    · intro y0
      unfold spec_digits.j1
      repeat' first
      | (with_reducible exact ih0 _ _)
      | (with_reducible exact ih1 _)
      | (with_reducible exact ih2 _ _ _)
      | (with_reducible exact LeO.refl _)
      | (with_reducible exact LeO.none _)
      | (with_reducible refine LeO.ite ?_ ?_)
      | (with_reducible refine LeO.bind ?_ (fun _ => ?_))
      | exact ih0 _ _
      | exact ih1 _
      | exact ih2 _ _ _
      | exact LeO.none _
      | refine LeO.ite ?_ ?_
      | refine LeO.bind ?_ (fun _ => ?_)
    · intro y0 y1 y2
      unfold spec_digits.l0
      repeat' first
      | (with_reducible exact ih0 _ _)
      | (with_reducible exact ih1 _)
      | (with_reducible exact ih2 _ _ _)
      | (with_reducible exact LeO.refl _)
      | (with_reducible exact LeO.none _)
      | (with_reducible refine LeO.ite ?_ ?_)
      | (with_reducible refine LeO.bind ?_ (fun _ => ?_))
      | exact ih0 _ _
      | exact ih1 _
      | exact ih2 _ _ _
      | exact LeO.none _
      | refine LeO.ite ?_ ?_
      | refine LeO.bind ?_ (fun _ => ?_)
theorem spec_digits.mono : ∀ a0 k, LeO (spec_digits.f k a0) (spec_digits.f (k + 1) a0) := by
  intro a0 k
  obtain ⟨ih0, ih1, ih2⟩ := spec_digits.mono_l k
  unfold spec_digits.f
  repeat' first
      | (with_reducible exact ih0 _ _)
      | (with_reducible exact ih1 _)
      | (with_reducible exact ih2 _ _ _)
      | (with_reducible exact LeO.refl _)
      | (with_reducible exact LeO.none _)
      | (with_reducible refine LeO.ite ?_ ?_)
      | (with_reducible refine LeO.bind ?_ (fun _ => ?_))
      | exact ih0 _ _
      | exact ih1 _
      | exact ih2 _ _ _
      | exact LeO.none _
      | refine LeO.ite ?_ ?_
      | refine LeO.bind ?_ (fun _ => ?_)
set_option maxHeartbeats 8000000 in
set_option maxRecDepth 100000 in
theorem spec_digits.calls (k : Nat) (a0 : ByteArray) (r : Bool) (w : World) (h : spec_digits.f k a0 = some r) :
    Calls Tryz.prog 45 #[.string a0] w fun e w' => e = .returned (.bool r) ∧ Drawn0 w w' := by
  have H : (if a0.toList = ([] : List UInt8) then (spec_digits.j0 k a0 false) else (if 0 < (a0.size : Int) then (spec_digits.j0 k a0 ((bt a0 0) == 45)) else (none))) = some r := h
  clear h
  have HC2 := Aside0.mk H
  clear H
  go_enter Tryz.func45, Tryz.ntmps45
  go_upto_region 1 with (fail)
  go_cut [10] (fun v10 wc => ∃ (kq : Nat) (x10_1 : Bool), v10 = .bool x10_1 ∧ Aside0 (spec_digits.j0 kq a0 x10_1 = some r) ∧ Aside0 (kq ≤ k) ∧ Drawn0 w wc)
  case first =>
    have H := HC2.out
    clear HC2
    by_cases c3 : a0.toList = ([] : List UInt8)
    · rw [if_pos c3] at H
      have c3b0 : (a0.toList == ([] : List UInt8)) = true := beq_iff_eq.mpr c3
      have c3b1 : (a0.toList != ([] : List UInt8)) = false := bne_eq_false_iff_eq.mpr c3
      clear c3
      (first | rw [c3b0] | (simp only [i64_w, i32_w]; rw [c3b0]) | skip)
      have H' := Aside0.mk H
      clear H
      go_wp2
      go_meet
      case rel => exact ⟨_, (false), (by first | rfl | (simp; done) | (simp [*]; done)), H', ⟨by first | omega | exact Nat.le_refl _⟩, by repeat (first | exact Drawn0.refl _ | apply Drawn0.step)⟩
    · rw [if_neg c3] at H
      have c3b0 : (a0.toList == ([] : List UInt8)) = false := beq_eq_false_iff_ne.mpr c3
      have c3b1 : (a0.toList != ([] : List UInt8)) = true := bne_iff_ne.mpr c3
      (first | rw [c3b0] | (simp only [i64_w, i32_w]; rw [c3b0]) | skip)
      by_cases c4 : 0 < (a0.size : Int)
      · rw [if_pos c4] at H
        have c4b0 : decide (0 < (a0.size : Int)) = true := decide_eq_true c4
        have c4b1 : decide (0 < a0.size) = true := decide_eq_true (by omega)
        clear c4
        have H' := Aside0.mk H
        clear H
        have p5 : 0 ≤ (0 : Int) := (by omega)
        have q5 : 0 < a0.size := (by have : (0 : Int) < (a0.size : Int) := of_decide_eq_true (by first | (with_reducible assumption) | assumption); omega)
        have hx5 : ∀ h : 0 < a0.size, ((a0[0]'h).toNat : Int) = bt a0 0 := bt_at a0 0
        clear p5
        have qi5 : (0 < (a0.size : Int)) = True := eq_true (of_decide_eq_true (by first | (with_reducible assumption) | assumption))
        replace q5 := eq_true q5
        go_wp2
        go_meet
        case rel => exact ⟨_, (((bt a0 0) == 45)), (by first | rfl | (simp; done) | (simp [*]; done)), H', ⟨by first | omega | exact Nat.le_refl _⟩, by repeat (first | exact Drawn0.refl _ | apply Drawn0.step)⟩
      · rw [if_neg c4] at H
        exact absurd H (by simp)
  case rest =>
    clear HC2
    try clear p2
    try clear c3
    try clear c3b0
    try clear c3b1
    try clear c4
    try clear c4b0
    try clear c4b1
    try clear p5
    try clear q5
    try clear hx5
    try clear qi5
    try clear p5
    try clear q5
    obtain ⟨kq, x10_1, rfl, HA, HJ1, ⟨mc1, rfl⟩⟩ := hcut
    cases kq with
    | zero => exact absurd HA.out (by simp [spec_digits.j0])
    | succ kj1 =>
      have H := HA.out
      clear HA
      simp only [spec_digits.j0] at H
      have HC6 := Aside0.mk H
      clear H
      go_upto_if 10 with (fail)
      go_cut [0] (fun v0 wc => ∃ (kq : Nat) (x0_5 : ByteArray), v0 = .string x0_5 ∧ Aside0 (spec_digits.j1 kq x0_5 = some r) ∧ Aside0 (kq ≤ kj1) ∧ Drawn0 w wc)
      case first =>
        have H := HC6.out
        clear HC6
        by_cases c7 : x10_1 = true
        · subst c7
          have H1 : (if 1 ≤ (a0.size : Int) then (if (a0.extract 1 a0.size).toList = ([48] : List UInt8) then (some false) else (spec_digits.j1 kj1 (a0.extract 1 a0.size))) else (none)) = some r := by rw [if_pos rfl] at H; exact H
          clear H
          have H := H1
          clear H1
          by_cases c8 : 1 ≤ (a0.size : Int)
          · rw [if_pos c8] at H
            have c8b0 := eq_true c8
            have c8b1 : decide (1 ≤ (a0.size : Int)) = true := decide_eq_true c8
            clear c8
            by_cases c9 : (a0.extract 1 a0.size).toList = ([48] : List UInt8)
            · rw [if_pos c9] at H
              have c9b0 : ((a0.extract 1 a0.size).toList == ([48] : List UInt8)) = true := beq_iff_eq.mpr c9
              have c9b1 : ((a0.extract 1 a0.size).toList != ([48] : List UInt8)) = false := bne_eq_false_iff_eq.mpr c9
              clear c9
              (first | rw [c9b0] | (simp only [i64_w, i32_w]; rw [c9b0]) | skip)
              obtain rfl := Option.some.inj H
              go_wp2
              go_ret
              exact ⟨by first | rfl | (simp; done) | (simp [*]; done), by repeat (first | exact Drawn0.refl _ | apply Drawn0.step)⟩
            · rw [if_neg c9] at H
              have c9b0 : ((a0.extract 1 a0.size).toList == ([48] : List UInt8)) = false := beq_eq_false_iff_ne.mpr c9
              have c9b1 : ((a0.extract 1 a0.size).toList != ([48] : List UInt8)) = true := bne_iff_ne.mpr c9
              (first | rw [c9b0] | (simp only [i64_w, i32_w]; rw [c9b0]) | skip)
              have H' := Aside0.mk H
              clear H
              go_wp2
              go_meet
              case rel => exact ⟨_, (a0.extract 1 a0.size), (by first | rfl | (simp; done) | (simp [*]; done)), H', ⟨by have := HJ1.out; first | omega | exact Nat.le_refl _⟩, by repeat (first | exact Drawn0.refl _ | apply Drawn0.step)⟩
          · rw [if_neg c8] at H
            exact absurd H (by simp)
        · replace c7 := Bool.eq_false_iff.mpr c7
          subst c7
          have H1 : (spec_digits.j1 kj1 a0) = some r := by rw [if_neg (show ¬ (false = true) by decide)] at H; exact H
          clear H
          have H := H1
          clear H1
          have H' := Aside0.mk H
          clear H
          go_wp2
          go_meet
          case rel => exact ⟨_, (a0), (by first | rfl | (simp; done) | (simp [*]; done)), H', ⟨by have := HJ1.out; first | omega | exact Nat.le_refl _⟩, by repeat (first | exact Drawn0.refl _ | apply Drawn0.step)⟩
      case rest =>
        clear HC6
        try clear c1
        try clear p2
        try clear c3
        try clear c3b0
        try clear c3b1
        try clear c4
        try clear c4b0
        try clear c4b1
        try clear p5
        try clear q5
        try clear hx5
        try clear qi5
        try clear c7
        try clear c8
        try clear c8b0
        try clear c8b1
        try clear c9
        try clear c9b0
        try clear c9b1
        try clear p2
        try clear p5
        try clear q5
        obtain ⟨kq, x0_5, rfl, HA, HJ5, ⟨mc5, rfl⟩⟩ := hcut
        cases kq with
        | zero => exact absurd HA.out (by simp [spec_digits.j1])
        | succ kj5 =>
          have H := HA.out
          clear HA
          simp only [spec_digits.j1] at H
          have H' := Aside0.mk H
          clear H
          go_wp2
          go_loopg [17] kj5 (fun kq v17 w' => ∃ (x17_3 : Int), v17 = .int .i64 x17_3 ∧ Aside0 (spec_digits.l0 kq x0_5 (x0_5.size : Int) x17_3 = some r) ∧ Aside0 (kq ≤ kj5) ∧ Drawn0 w w')
          case atStart => exact ⟨(0), (by first | rfl | (simp; done) | (simp [*]; done)), H', ⟨Nat.le_refl _⟩, by repeat (first | exact Drawn0.refl _ | apply Drawn0.step)⟩
          case round =>
            clear H'
            try clear c1
            try clear p2
            try clear c3
            try clear c3b0
            try clear c3b1
            try clear c4
            try clear c4b0
            try clear c4b1
            try clear c5
            try clear p5
            try clear q5
            try clear hx5
            try clear qi5
            try clear c7
            try clear c8
            try clear c8b0
            try clear c8b1
            try clear c9
            try clear c9b0
            try clear c9b1
            try clear p2
            try clear p5
            try clear q5
            obtain ⟨x17_3, rfl, HA, HK3, ⟨m3, rfl⟩⟩ := hrel
            cases gk with
            | zero => exact absurd HA.out (by simp [spec_digits.l0])
            | succ k3 =>
              have H := HA.out
              clear HA
              simp only [spec_digits.l0] at H
              by_cases c10 : x17_3 < (x0_5.size : Int)
              · rw [if_pos c10] at H
                have c10b0 : decide (x17_3 < (x0_5.size : Int)) = true := decide_eq_true c10
                clear c10
                by_cases c11 : 0 ≤ x17_3
                · rw [if_pos c11] at H
                  have c11b0 : decide (0 ≤ x17_3) = true := decide_eq_true c11
                  clear c11
                  by_cases c12 : x17_3 < (x0_5.size : Int)
                  · rw [if_pos c12] at H
                    have c12b0 : decide (x17_3 < (x0_5.size : Int)) = true := decide_eq_true c12
                    clear c12
                    by_cases c14 : (bt x0_5 x17_3) < 48
                    · rw [if_pos c14] at H
                      have c14b0 : decide ((bt x0_5 x17_3) < 48) = true := decide_eq_true c14
                      clear c14
                      obtain rfl := Option.some.inj H
                      have p13 : 0 ≤ (x17_3 : Int) := of_decide_eq_true (by first | (with_reducible assumption) | assumption)
                      have q13 : x17_3 < (x0_5.size : Int) := of_decide_eq_true (by first | (with_reducible assumption) | assumption)
                      have hx13 := bt_at x0_5 x17_3
                      replace p13 := eq_true p13
                      replace q13 := eq_true q13
                      go_wp2
                      go_ret
                      exact ⟨by first | rfl | (simp; done) | (simp [*]; done), by repeat (first | exact Drawn0.refl _ | apply Drawn0.step)⟩
                    · rw [if_neg c14] at H
                      have c14b0 : decide ((bt x0_5 x17_3) < 48) = false := decide_eq_false c14
                      clear c14
                      by_cases c16 : (bt x0_5 x17_3) > 57
                      · rw [if_pos c16] at H
                        have c16b0 : decide (57 < (bt x0_5 x17_3)) = true := decide_eq_true c16
                        clear c16
                        obtain rfl := Option.some.inj H
                        have p13 : 0 ≤ (x17_3 : Int) := of_decide_eq_true (by first | (with_reducible assumption) | assumption)
                        have q13 : x17_3 < (x0_5.size : Int) := of_decide_eq_true (by first | (with_reducible assumption) | assumption)
                        have hx13 := bt_at x0_5 x17_3
                        replace p13 := eq_true p13
                        replace q13 := eq_true q13
                        have p15 : 0 ≤ (x17_3 : Int) := of_decide_eq_true (by first | (with_reducible assumption) | assumption)
                        have q15 : x17_3 < (x0_5.size : Int) := of_decide_eq_true (by first | (with_reducible assumption) | assumption)
                        have hx15 := bt_at x0_5 x17_3
                        replace p15 := eq_true p15
                        replace q15 := eq_true q15
                        go_wp2
                        go_ret
                        exact ⟨by first | rfl | (simp; done) | (simp [*]; done), by repeat (first | exact Drawn0.refl _ | apply Drawn0.step)⟩
                      · rw [if_neg c16] at H
                        have c16b0 : decide (57 < (bt x0_5 x17_3)) = false := decide_eq_false c16
                        clear c16
                        have H' := Aside0.mk H
                        clear H
                        have p13 : 0 ≤ (x17_3 : Int) := of_decide_eq_true (by first | (with_reducible assumption) | assumption)
                        have q13 : x17_3 < (x0_5.size : Int) := of_decide_eq_true (by first | (with_reducible assumption) | assumption)
                        have hx13 := bt_at x0_5 x17_3
                        replace p13 := eq_true p13
                        replace q13 := eq_true q13
                        have p15 : 0 ≤ (x17_3 : Int) := of_decide_eq_true (by first | (with_reducible assumption) | assumption)
                        have q15 : x17_3 < (x0_5.size : Int) := of_decide_eq_true (by first | (with_reducible assumption) | assumption)
                        have hx15 := bt_at x0_5 x17_3
                        replace p15 := eq_true p15
                        replace q15 := eq_true q15
                        go_wp2
                        go_roundg k3
                        case measure => have := HJ1.out; have := HJ5.out; have := HK3.out; omega
                        case rel => exact ⟨(wrap64 (x17_3 + 1)), (by first | rfl | (simp; done) | (simp [*]; done)), H', ⟨by have := HJ1.out; have := HJ5.out; have := HK3.out; omega⟩, by repeat (first | exact Drawn0.refl _ | apply Drawn0.step)⟩
                  · rw [if_neg c12] at H
                    exact absurd H (by simp)
                · rw [if_neg c11] at H
                  exact absurd H (by simp)
              · rw [if_neg c10] at H
                have c10b0 : decide (x17_3 < (x0_5.size : Int)) = false := decide_eq_false c10
                clear c10
                by_cases c17 : x0_5.toList = ([] : List UInt8)
                · rw [if_pos c17] at H
                  have c17b0 : (x0_5.toList == ([] : List UInt8)) = true := beq_iff_eq.mpr c17
                  have c17b1 : (x0_5.toList != ([] : List UInt8)) = false := bne_eq_false_iff_eq.mpr c17
                  clear c17
                  obtain rfl := Option.some.inj H
                  go_wp2
                  go_ret
                  exact ⟨by first | rfl | (simp; done) | (simp [*]; done), by repeat (first | exact Drawn0.refl _ | apply Drawn0.step)⟩
                · rw [if_neg c17] at H
                  have c17b0 : (x0_5.toList == ([] : List UInt8)) = false := beq_eq_false_iff_ne.mpr c17
                  have c17b1 : (x0_5.toList != ([] : List UInt8)) = true := bne_iff_ne.mpr c17
                  by_cases c18 : x0_5.toList = ([48] : List UInt8)
                  · rw [if_pos c18] at H
                    have c18b0 : (x0_5.toList == ([48] : List UInt8)) = true := beq_iff_eq.mpr c18
                    have c18b1 : (x0_5.toList != ([48] : List UInt8)) = false := bne_eq_false_iff_eq.mpr c18
                    clear c18
                    obtain rfl := Option.some.inj H
                    go_wp2
                    go_ret
                    exact ⟨by first | rfl | (simp; done) | (simp [*]; done), by repeat (first | exact Drawn0.refl _ | apply Drawn0.step)⟩
                  · rw [if_neg c18] at H
                    have c18b0 : (x0_5.toList == ([48] : List UInt8)) = false := beq_eq_false_iff_ne.mpr c18
                    have c18b1 : (x0_5.toList != ([48] : List UInt8)) = true := bne_iff_ne.mpr c18
                    by_cases c19 : 0 < (x0_5.size : Int)
                    · rw [if_pos c19] at H
                      have c19b0 : decide (0 < (x0_5.size : Int)) = true := decide_eq_true c19
                      have c19b1 : decide (0 < x0_5.size) = true := decide_eq_true (by omega)
                      clear c19
                      obtain rfl := Option.some.inj H
                      have p20 : 0 ≤ (0 : Int) := (by omega)
                      have q20 : 0 < x0_5.size := (by have : (0 : Int) < (x0_5.size : Int) := of_decide_eq_true (by first | (with_reducible assumption) | assumption); omega)
                      have hx20 : ∀ h : 0 < x0_5.size, ((x0_5[0]'h).toNat : Int) = bt x0_5 0 := bt_at x0_5 0
                      clear p20
                      have qi20 : (0 < (x0_5.size : Int)) = True := eq_true (of_decide_eq_true (by first | (with_reducible assumption) | assumption))
                      replace q20 := eq_true q20
                      go_wp2
                      go_ret
                      exact ⟨by first | rfl | (simp; done) | (simp [*]; done), by repeat (first | exact Drawn0.refl _ | apply Drawn0.step)⟩
                    · rw [if_neg c19] at H
                      exact absurd H (by simp)

-- NOT PRINTED: function 27 (spec_write)

-- NOT PRINTED: function 16 (spec_Write)

-- NOT PRINTED: function 7 (laws_lettered)

end Go.Proofs.YtkogipaaioibaaaGreatDoor.PAll
