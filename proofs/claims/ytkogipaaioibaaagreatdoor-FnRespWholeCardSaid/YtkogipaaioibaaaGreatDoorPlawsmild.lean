/- The Lean function of laws_mild and its contract: the Go function comes to exactly what the Lean function answers (laid by the kit's print program). -/
import Derived.Test.YtkogipaaioibaaaGreatDoorPAllx0
namespace Go.Proofs.YtkogipaaioibaaaGreatDoor.PAll
open Go.RowKit Go.Proofs.YtkogipaaioibaaaGreatDoorW.PrintWords Go.Proofs.YtkogipaaioibaaaGreatDoorW.PrintLast Go.Proofs.YtkogipaaioibaaaGreatDoorW.PrintMore
attribute [local go_sem] max2_int min2_int max_two min_two max_three min_three max_four min_four   -- for this text's walks alone
set_option linter.unusedVariables false
set_option linter.unusedSimpArgs false


/-! ### laws_mild: function 8 -/
mutual
def laws_mild.l0 : Nat → ByteArray → Int → Int → Int → Option (Bool)
  | 0, _, _, _, _ => none
  | k + 1, x0, x3, x7, x8 => if x8 < x7 then (if 0 ≤ x8 then (if x8 < (x0.size : Int) then (if (bt x0 x8) = 42 then (laws_mild.j1 k x0 x3 x8 x7 x8 (bt x0 x8) ((bt x0 x8) == 42)) else (if (bt x0 x8) = 37 then (laws_mild.j1 k x0 x3 x8 x7 x8 (bt x0 x8) ((bt x0 x8) == 37)) else (if (bt x0 x8) = 126 then (laws_mild.j1 k x0 x3 x8 x7 x8 (bt x0 x8) ((bt x0 x8) == 126)) else (if (bt x0 x8) = 124 then (laws_mild.j1 k x0 x3 x8 x7 x8 (bt x0 x8) ((bt x0 x8) == 124)) else (laws_mild.j1 k x0 x3 x8 x7 x8 (bt x0 x8) ((bt x0 x8) == 62)))))) else (none)) else (none)) else (some (decide (x3 ≤ 64)))
def laws_mild.j2 : Nat → ByteArray → Int → Int → Int → Int → Option (Bool)
  | 0, _, _, _, _, _ => none
  | k + 1, x0, x3, x4, x7, x8 => laws_mild.l1 k x0 x3 x4 (wrap64 (x4 + 1)) x7 x8
def laws_mild.l1 : Nat → ByteArray → Int → Int → Int → Int → Int → Option (Bool)
  | 0, _, _, _, _, _, _ => none
  | k + 1, x0, x3, x4, x5, x7, x8 => if x5 < (x0.size : Int) then (if x5 < (wrap64 (x4 + 8)) then (if 0 ≤ x5 then (if (bt x0 x5) ≥ 48 then (if (bt x0 x5) ≤ 57 then (laws_mild.l1 k x0 x3 x4 (wrap64 (x5 + 1)) x7 x8) else (if (bt x0 x5) = 43 then (laws_mild.l1 k x0 x3 x4 (wrap64 (x5 + 1)) x7 x8) else (if (bt x0 x5) = 45 then (laws_mild.l1 k x0 x3 x4 (wrap64 (x5 + 1)) x7 x8) else (if (bt x0 x5) = 95 then (laws_mild.l1 k x0 x3 x4 (wrap64 (x5 + 1)) x7 x8) else (if x5 > (wrap64 (x4 + 6)) then (some false) else (laws_mild.l0 k x0 x3 x7 (wrap64 (x8 + 1)))))))) else (if (bt x0 x5) = 43 then (laws_mild.l1 k x0 x3 x4 (wrap64 (x5 + 1)) x7 x8) else (if (bt x0 x5) = 45 then (laws_mild.l1 k x0 x3 x4 (wrap64 (x5 + 1)) x7 x8) else (if (bt x0 x5) = 95 then (laws_mild.l1 k x0 x3 x4 (wrap64 (x5 + 1)) x7 x8) else (if x5 > (wrap64 (x4 + 6)) then (some false) else (laws_mild.l0 k x0 x3 x7 (wrap64 (x8 + 1)))))))) else (none)) else (if x5 > (wrap64 (x4 + 6)) then (some false) else (laws_mild.l0 k x0 x3 x7 (wrap64 (x8 + 1))))) else (if x5 > (wrap64 (x4 + 6)) then (some false) else (laws_mild.l0 k x0 x3 x7 (wrap64 (x8 + 1))))
def laws_mild.j1 : Nat → ByteArray → Int → Int → Int → Int → Int → Bool → Option (Bool)
  | 0, _, _, _, _, _, _, _ => none
  | k + 1, x0, x3, x4, x7, x8, x13, x14 => if x14 = true then (laws_mild.j2 k x0 (wrap64 (x3 + 1)) x4 x7 x8) else (if x13 = 36 then (laws_mild.j2 k x0 x3 x4 x7 x8) else (if x13 = 33 then (laws_mild.j2 k x0 x3 x4 x7 x8) else (if x13 = 61 then (laws_mild.j2 k x0 x3 x4 x7 x8) else (laws_mild.l0 k x0 x3 x7 (wrap64 (x8 + 1))))))
end
def laws_mild.f (k : Nat) (a0 : ByteArray) : Option (Bool) := laws_mild.l0 k a0 0 (a0.size : Int) 0
theorem laws_mild.mono_l : ∀ k, (∀ y0 y1 y2 y3, LeO (laws_mild.l0 k y0 y1 y2 y3) (laws_mild.l0 (k + 1) y0 y1 y2 y3)) ∧ (∀ y0 y1 y2 y3 y4, LeO (laws_mild.j2 k y0 y1 y2 y3 y4) (laws_mild.j2 (k + 1) y0 y1 y2 y3 y4)) ∧ (∀ y0 y1 y2 y3 y4 y5, LeO (laws_mild.l1 k y0 y1 y2 y3 y4 y5) (laws_mild.l1 (k + 1) y0 y1 y2 y3 y4 y5)) ∧ (∀ y0 y1 y2 y3 y4 y5 y6, LeO (laws_mild.j1 k y0 y1 y2 y3 y4 y5 y6) (laws_mild.j1 (k + 1) y0 y1 y2 y3 y4 y5 y6))
  | 0 => ⟨fun _ _ _ _ r h => by simp [laws_mild.l0] at h, fun _ _ _ _ _ r h => by simp [laws_mild.j2] at h, fun _ _ _ _ _ _ r h => by simp [laws_mild.l1] at h, fun _ _ _ _ _ _ _ r h => by simp [laws_mild.j1] at h⟩
  | k + 1 => by
    obtain ⟨ih0, ih1, ih2, ih3⟩ := laws_mild.mono_l k
    refine ⟨?_, ?_, ?_, ?_⟩
    · intro y0 y1 y2 y3
      unfold laws_mild.l0
      repeat' first
      | (with_reducible exact ih0 _ _ _ _)
      | (with_reducible exact ih1 _ _ _ _ _)
      | (with_reducible exact ih2 _ _ _ _ _ _)
      | (with_reducible exact ih3 _ _ _ _ _ _ _)
      | (with_reducible exact LeO.refl _)
      | (with_reducible exact LeO.none _)
      | (with_reducible refine LeO.ite ?_ ?_)
      | (with_reducible refine LeO.bind ?_ (fun _ => ?_))
      | exact ih0 _ _ _ _
      | exact ih1 _ _ _ _ _
      | exact ih2 _ _ _ _ _ _
      | exact ih3 _ _ _ _ _ _ _
      | exact LeO.none _
      | refine LeO.ite ?_ ?_
      | refine LeO.bind ?_ (fun _ => ?_)
    · intro y0 y1 y2 y3 y4
      unfold laws_mild.j2
      repeat' first
      | (with_reducible exact ih0 _ _ _ _)
      | (with_reducible exact ih1 _ _ _ _ _)
      | (with_reducible exact ih2 _ _ _ _ _ _)
      | (with_reducible exact ih3 _ _ _ _ _ _ _)
      | (with_reducible exact LeO.refl _)
      | (with_reducible exact LeO.none _)
      | (with_reducible refine LeO.ite ?_ ?_)
      | (with_reducible refine LeO.bind ?_ (fun _ => ?_))
      | exact ih0 _ _ _ _
      | exact ih1 _ _ _ _ _
      | exact ih2 _ _ _ _ _ _
      | exact ih3 _ _ _ _ _ _ _
      | exact LeO.none _
      | refine LeO.ite ?_ ?_
      | refine LeO.bind ?_ (fun _ => ?_)
    · intro y0 y1 y2 y3 y4 y5
      unfold laws_mild.l1
      repeat' first
      | (with_reducible exact ih0 _ _ _ _)
      | (with_reducible exact ih1 _ _ _ _ _)
      | (with_reducible exact ih2 _ _ _ _ _ _)
      | (with_reducible exact ih3 _ _ _ _ _ _ _)
      | (with_reducible exact LeO.refl _)
      | (with_reducible exact LeO.none _)
      | (with_reducible refine LeO.ite ?_ ?_)
      | (with_reducible refine LeO.bind ?_ (fun _ => ?_))
      | exact ih0 _ _ _ _
      | exact ih1 _ _ _ _ _
      | exact ih2 _ _ _ _ _ _
      | exact ih3 _ _ _ _ _ _ _
      | exact LeO.none _
      | refine LeO.ite ?_ ?_
      | refine LeO.bind ?_ (fun _ => ?_)
    · intro y0 y1 y2 y3 y4 y5 y6
      unfold laws_mild.j1
      repeat' first
      | (with_reducible exact ih0 _ _ _ _)
      | (with_reducible exact ih1 _ _ _ _ _)
      | (with_reducible exact ih2 _ _ _ _ _ _)
      | (with_reducible exact ih3 _ _ _ _ _ _ _)
      | (with_reducible exact LeO.refl _)
      | (with_reducible exact LeO.none _)
      | (with_reducible refine LeO.ite ?_ ?_)
      | (with_reducible refine LeO.bind ?_ (fun _ => ?_))
      | exact ih0 _ _ _ _
      | exact ih1 _ _ _ _ _
      | exact ih2 _ _ _ _ _ _
      | exact ih3 _ _ _ _ _ _ _
      | exact LeO.none _
      | refine LeO.ite ?_ ?_
      | refine LeO.bind ?_ (fun _ => ?_)
theorem laws_mild.mono : ∀ a0 k, LeO (laws_mild.f k a0) (laws_mild.f (k + 1) a0) := by
  intro a0 k
  obtain ⟨ih0, ih1, ih2, ih3⟩ := laws_mild.mono_l k
  unfold laws_mild.f
  repeat' first
      | (with_reducible exact ih0 _ _ _ _)
      | (with_reducible exact ih1 _ _ _ _ _)
      | (with_reducible exact ih2 _ _ _ _ _ _)
      | (with_reducible exact ih3 _ _ _ _ _ _ _)
      | (with_reducible exact LeO.refl _)
      | (with_reducible exact LeO.none _)
      | (with_reducible refine LeO.ite ?_ ?_)
      | (with_reducible refine LeO.bind ?_ (fun _ => ?_))
      | exact ih0 _ _ _ _
      | exact ih1 _ _ _ _ _
      | exact ih2 _ _ _ _ _ _
      | exact ih3 _ _ _ _ _ _ _
      | exact LeO.none _
      | refine LeO.ite ?_ ?_
      | refine LeO.bind ?_ (fun _ => ?_)
set_option maxHeartbeats 8000000 in
set_option maxRecDepth 100000 in
theorem laws_mild.calls (k : Nat) (a0 : ByteArray) (r : Bool) (w : World) (h : laws_mild.f k a0 = some r) :
    Calls Tryz.prog 8 #[.string a0] w fun e w' => e = .returned (.bool r) ∧ Drawn0 w w' := by
  have H : (laws_mild.l0 k a0 0 (a0.size : Int) 0) = some r := h
  clear h
  have H' := Aside0.mk H
  clear H
  go_enter Tryz.func8, Tryz.ntmps8
  go_wp2
  go_loopg [3, 8] k (fun kq v3 v8 w' => ∃ (x3_1 : Int) (x8_1 : Int), v3 = .int .i64 x3_1 ∧ v8 = .int .i64 x8_1 ∧ Aside0 (laws_mild.l0 kq a0 x3_1 (a0.size : Int) x8_1 = some r) ∧ Aside0 (kq ≤ k) ∧ Drawn0 w w')
  case atStart => exact ⟨(0), (0), (by first | rfl | (simp; done) | (simp [*]; done)), (by first | rfl | (simp; done) | (simp [*]; done)), H', ⟨Nat.le_refl _⟩, by repeat (first | exact Drawn0.refl _ | apply Drawn0.step)⟩
  case round =>
    clear H'
    obtain ⟨x3_1, x8_1, rfl, rfl, HA, HK1, ⟨m1, rfl⟩⟩ := hrel
    cases gk with
    | zero => exact absurd HA.out (by simp [laws_mild.l0])
    | succ k1 =>
      have H := HA.out
      clear HA
      simp only [laws_mild.l0] at H
      by_cases c2 : x8_1 < (a0.size : Int)
      · rw [if_pos c2] at H
        have c2b0 : decide (x8_1 < (a0.size : Int)) = true := decide_eq_true c2
        clear c2
        by_cases c3 : 0 ≤ x8_1
        · rw [if_pos c3] at H
          have c3b0 : decide (0 ≤ x8_1) = true := decide_eq_true c3
          clear c3
          by_cases c4 : x8_1 < (a0.size : Int)
          · rw [if_pos c4] at H
            have c4b0 : decide (x8_1 < (a0.size : Int)) = true := decide_eq_true c4
            clear c4
            have HC6 := Aside0.mk H
            clear H
            have p5 : 0 ≤ (x8_1 : Int) := of_decide_eq_true (by first | (with_reducible assumption) | assumption)
            have q5 : x8_1 < (a0.size : Int) := of_decide_eq_true (by first | (with_reducible assumption) | assumption)
            have hx5 := bt_at a0 x8_1
            replace p5 := eq_true p5
            replace q5 := eq_true q5
            go_upto_block 2 with (fail)
            go_cut [3] (fun v3 wc => ∃ (kq : Nat) (x3_5 : Int), v3 = .int .i64 x3_5 ∧ Aside0 (laws_mild.j2 kq a0 x3_5 x8_1 (a0.size : Int) x8_1 = some r) ∧ Aside0 (kq ≤ k1) ∧ Drawn0 w wc)
            case first =>
              have H := HC6.out
              clear HC6
              have HC7 := Aside0.mk H
              clear H
              go_upto_if 14 with (fail)
              go_cut [14] (fun v14 wc => ∃ (kq : Nat) (x14_6 : Bool), v14 = .bool x14_6 ∧ Aside0 (laws_mild.j1 kq a0 x3_1 x8_1 (a0.size : Int) x8_1 (bt a0 x8_1) x14_6 = some r) ∧ Aside0 (kq ≤ k1) ∧ Drawn0 w wc)
              case first =>
                have H := HC7.out
                clear HC7
                by_cases c8 : (bt a0 x8_1) = 42
                · rw [if_pos c8] at H
                  have c8b0 : ((bt a0 x8_1) == 42) = true := beq_iff_eq.mpr c8
                  have c8b1 : ((bt a0 x8_1) != 42) = false := bne_eq_false_iff_eq.mpr c8
                  clear c8
                  (first | rw [c8b0] | (simp only [i64_w, i32_w]; rw [c8b0]) | skip)
                  have H' := Aside0.mk H
                  clear H
                  go_wp2
                  go_meet
                  case rel => exact ⟨_, (((bt a0 x8_1) == 42)), (by first | rfl | (simp; done) | (simp [*]; done)), H', ⟨by have := HK1.out; first | omega | exact Nat.le_refl _⟩, by repeat (first | exact Drawn0.refl _ | apply Drawn0.step)⟩
                · rw [if_neg c8] at H
                  have c8b0 : ((bt a0 x8_1) == 42) = false := beq_eq_false_iff_ne.mpr c8
                  have c8b1 : ((bt a0 x8_1) != 42) = true := bne_iff_ne.mpr c8
                  (first | rw [c8b0] | (simp only [i64_w, i32_w]; rw [c8b0]) | skip)
                  by_cases c9 : (bt a0 x8_1) = 37
                  · rw [if_pos c9] at H
                    have c9b0 : ((bt a0 x8_1) == 37) = true := beq_iff_eq.mpr c9
                    have c9b1 : ((bt a0 x8_1) != 37) = false := bne_eq_false_iff_eq.mpr c9
                    clear c9
                    have H' := Aside0.mk H
                    clear H
                    go_wp2
                    go_meet
                    case rel => exact ⟨_, (((bt a0 x8_1) == 37)), (by first | rfl | (simp; done) | (simp [*]; done)), H', ⟨by have := HK1.out; first | omega | exact Nat.le_refl _⟩, by repeat (first | exact Drawn0.refl _ | apply Drawn0.step)⟩
                  · rw [if_neg c9] at H
                    have c9b0 : ((bt a0 x8_1) == 37) = false := beq_eq_false_iff_ne.mpr c9
                    have c9b1 : ((bt a0 x8_1) != 37) = true := bne_iff_ne.mpr c9
                    by_cases c10 : (bt a0 x8_1) = 126
                    · rw [if_pos c10] at H
                      have c10b0 : ((bt a0 x8_1) == 126) = true := beq_iff_eq.mpr c10
                      have c10b1 : ((bt a0 x8_1) != 126) = false := bne_eq_false_iff_eq.mpr c10
                      clear c10
                      have H' := Aside0.mk H
                      clear H
                      go_wp2
                      go_meet
                      case rel => exact ⟨_, (((bt a0 x8_1) == 126)), (by first | rfl | (simp; done) | (simp [*]; done)), H', ⟨by have := HK1.out; first | omega | exact Nat.le_refl _⟩, by repeat (first | exact Drawn0.refl _ | apply Drawn0.step)⟩
                    · rw [if_neg c10] at H
                      have c10b0 : ((bt a0 x8_1) == 126) = false := beq_eq_false_iff_ne.mpr c10
                      have c10b1 : ((bt a0 x8_1) != 126) = true := bne_iff_ne.mpr c10
                      by_cases c11 : (bt a0 x8_1) = 124
                      · rw [if_pos c11] at H
                        have c11b0 : ((bt a0 x8_1) == 124) = true := beq_iff_eq.mpr c11
                        have c11b1 : ((bt a0 x8_1) != 124) = false := bne_eq_false_iff_eq.mpr c11
                        clear c11
                        have H' := Aside0.mk H
                        clear H
                        go_wp2
                        go_meet
                        case rel => exact ⟨_, (((bt a0 x8_1) == 124)), (by first | rfl | (simp; done) | (simp [*]; done)), H', ⟨by have := HK1.out; first | omega | exact Nat.le_refl _⟩, by repeat (first | exact Drawn0.refl _ | apply Drawn0.step)⟩
                      · rw [if_neg c11] at H
                        have c11b0 : ((bt a0 x8_1) == 124) = false := beq_eq_false_iff_ne.mpr c11
                        have c11b1 : ((bt a0 x8_1) != 124) = true := bne_iff_ne.mpr c11
                        have H' := Aside0.mk H
                        clear H
                        go_wp2
                        go_meet
                        case rel => exact ⟨_, (((bt a0 x8_1) == 62)), (by first | rfl | (simp; done) | (simp [*]; done)), H', ⟨by have := HK1.out; first | omega | exact Nat.le_refl _⟩, by repeat (first | exact Drawn0.refl _ | apply Drawn0.step)⟩
              case rest =>
                clear HC7
                try clear c1
                try clear c2
                try clear c2b0
                try clear p2
                try clear c3
                try clear c3b0
                try clear c4
                try clear c4b0
                try clear p5
                try clear q5
                try clear hx5
                try clear c8
                try clear c8b0
                try clear c8b1
                try clear c9
                try clear c9b0
                try clear c9b1
                try clear c10
                try clear c10b0
                try clear c10b1
                try clear c11
                try clear c11b0
                try clear c11b1
                try clear p5
                try clear q5
                obtain ⟨kq, x14_6, rfl, HA, HJ6, ⟨mc6, rfl⟩⟩ := hcut
                cases kq with
                | zero => exact absurd HA.out (by simp [laws_mild.j1])
                | succ kj6 =>
                  have H := HA.out
                  clear HA
                  simp only [laws_mild.j1] at H
                  by_cases c12 : x14_6 = true
                  · subst c12
                    have H1 : (laws_mild.j2 kj6 a0 (wrap64 (x3_1 + 1)) x8_1 (a0.size : Int) x8_1) = some r := by rw [if_pos rfl] at H; exact H
                    clear H
                    have H := H1
                    clear H1
                    have H' := Aside0.mk H
                    clear H
                    go_wp2
                    go_meet
                    case rel => exact ⟨_, (wrap64 (x3_1 + 1)), (by first | rfl | (simp; done) | (simp [*]; done)), H', ⟨by have := HK1.out; have := HJ6.out; first | omega | exact Nat.le_refl _⟩, by repeat (first | exact Drawn0.refl _ | apply Drawn0.step)⟩
                  · replace c12 := Bool.eq_false_iff.mpr c12
                    subst c12
                    have H1 : (if (bt a0 x8_1) = 36 then (laws_mild.j2 kj6 a0 x3_1 x8_1 (a0.size : Int) x8_1) else (if (bt a0 x8_1) = 33 then (laws_mild.j2 kj6 a0 x3_1 x8_1 (a0.size : Int) x8_1) else (if (bt a0 x8_1) = 61 then (laws_mild.j2 kj6 a0 x3_1 x8_1 (a0.size : Int) x8_1) else (laws_mild.l0 kj6 a0 x3_1 (a0.size : Int) (wrap64 (x8_1 + 1)))))) = some r := by rw [if_neg (show ¬ (false = true) by decide)] at H; exact H
                    clear H
                    have H := H1
                    clear H1
                    by_cases c13 : (bt a0 x8_1) = 36
                    · rw [if_pos c13] at H
                      have c13b0 : ((bt a0 x8_1) == 36) = true := beq_iff_eq.mpr c13
                      have c13b1 : ((bt a0 x8_1) != 36) = false := bne_eq_false_iff_eq.mpr c13
                      clear c13
                      have H' := Aside0.mk H
                      clear H
                      go_wp2
                      go_meet
                      case rel => exact ⟨_, (x3_1), (by first | rfl | (simp; done) | (simp [*]; done)), H', ⟨by have := HK1.out; have := HJ6.out; first | omega | exact Nat.le_refl _⟩, by repeat (first | exact Drawn0.refl _ | apply Drawn0.step)⟩
                    · rw [if_neg c13] at H
                      have c13b0 : ((bt a0 x8_1) == 36) = false := beq_eq_false_iff_ne.mpr c13
                      have c13b1 : ((bt a0 x8_1) != 36) = true := bne_iff_ne.mpr c13
                      by_cases c14 : (bt a0 x8_1) = 33
                      · rw [if_pos c14] at H
                        have c14b0 : ((bt a0 x8_1) == 33) = true := beq_iff_eq.mpr c14
                        have c14b1 : ((bt a0 x8_1) != 33) = false := bne_eq_false_iff_eq.mpr c14
                        clear c14
                        have H' := Aside0.mk H
                        clear H
                        go_wp2
                        go_meet
                        case rel => exact ⟨_, (x3_1), (by first | rfl | (simp; done) | (simp [*]; done)), H', ⟨by have := HK1.out; have := HJ6.out; first | omega | exact Nat.le_refl _⟩, by repeat (first | exact Drawn0.refl _ | apply Drawn0.step)⟩
                      · rw [if_neg c14] at H
                        have c14b0 : ((bt a0 x8_1) == 33) = false := beq_eq_false_iff_ne.mpr c14
                        have c14b1 : ((bt a0 x8_1) != 33) = true := bne_iff_ne.mpr c14
                        by_cases c15 : (bt a0 x8_1) = 61
                        · rw [if_pos c15] at H
                          have c15b0 : ((bt a0 x8_1) == 61) = true := beq_iff_eq.mpr c15
                          have c15b1 : ((bt a0 x8_1) != 61) = false := bne_eq_false_iff_eq.mpr c15
                          clear c15
                          have H' := Aside0.mk H
                          clear H
                          go_wp2
                          go_meet
                          case rel => exact ⟨_, (x3_1), (by first | rfl | (simp; done) | (simp [*]; done)), H', ⟨by have := HK1.out; have := HJ6.out; first | omega | exact Nat.le_refl _⟩, by repeat (first | exact Drawn0.refl _ | apply Drawn0.step)⟩
                        · rw [if_neg c15] at H
                          have c15b0 : ((bt a0 x8_1) == 61) = false := beq_eq_false_iff_ne.mpr c15
                          have c15b1 : ((bt a0 x8_1) != 61) = true := bne_iff_ne.mpr c15
                          have H' := Aside0.mk H
                          clear H
                          go_wp2
                          go_roundg kj6
                          case measure => have := HK1.out; have := HJ6.out; omega
                          case rel => exact ⟨(x3_1), (wrap64 (x8_1 + 1)), (by first | rfl | (simp; done) | (simp [*]; done)), (by first | rfl | (simp; done) | (simp [*]; done)), H', ⟨by have := HK1.out; have := HJ6.out; omega⟩, by repeat (first | exact Drawn0.refl _ | apply Drawn0.step)⟩
            case rest =>
              clear HC6
              try clear c1
              try clear c2
              try clear c2b0
              try clear p2
              try clear c3
              try clear c3b0
              try clear c4
              try clear c4b0
              try clear p5
              try clear q5
              try clear hx5
              try clear c6
              try clear p6
              try clear c8
              try clear c8b0
              try clear c8b1
              try clear c9
              try clear c9b0
              try clear c9b1
              try clear c10
              try clear c10b0
              try clear c10b1
              try clear c11
              try clear c11b0
              try clear c11b1
              try clear c12
              try clear c13
              try clear c13b0
              try clear c13b1
              try clear c14
              try clear c14b0
              try clear c14b1
              try clear c15
              try clear c15b0
              try clear c15b1
              try clear p2
              try clear p5
              try clear q5
              obtain ⟨kq, x3_5, rfl, HA, HJ5, ⟨mc5, rfl⟩⟩ := hcut
              cases kq with
              | zero => exact absurd HA.out (by simp [laws_mild.j2])
              | succ kj5 =>
                have H := HA.out
                clear HA
                simp only [laws_mild.j2] at H
                have H' := Aside0.mk H
                clear H
                go_wp2
                go_loopg [5] kj5 (fun kq v5 w' => ∃ (x5_3 : Int), v5 = .int .i64 x5_3 ∧ Aside0 (laws_mild.l1 kq a0 x3_5 x8_1 x5_3 (a0.size : Int) x8_1 = some r) ∧ Aside0 (kq ≤ kj5) ∧ Drawn0 w w')
                case atStart => exact ⟨(wrap64 (x8_1 + 1)), (by first | rfl | (simp; done) | (simp [*]; done)), H', ⟨Nat.le_refl _⟩, by repeat (first | exact Drawn0.refl _ | apply Drawn0.step)⟩
                case round =>
                  clear H'
                  try clear c1
                  try clear c2
                  try clear c2b0
                  try clear p2
                  try clear c3
                  try clear c3b0
                  try clear c4
                  try clear c4b0
                  try clear c5
                  try clear p5
                  try clear q5
                  try clear hx5
                  try clear c6
                  try clear p6
                  try clear c8
                  try clear c8b0
                  try clear c8b1
                  try clear c9
                  try clear c9b0
                  try clear c9b1
                  try clear c10
                  try clear c10b0
                  try clear c10b1
                  try clear c11
                  try clear c11b0
                  try clear c11b1
                  try clear c12
                  try clear c13
                  try clear c13b0
                  try clear c13b1
                  try clear c14
                  try clear c14b0
                  try clear c14b1
                  try clear c15
                  try clear c15b0
                  try clear c15b1
                  try clear p2
                  try clear p5
                  try clear p6
                  try clear q5
                  obtain ⟨x5_3, rfl, HA, HK3, ⟨m3, rfl⟩⟩ := hrel
                  cases gk with
                  | zero => exact absurd HA.out (by simp [laws_mild.l1])
                  | succ k3 =>
                    have H := HA.out
                    clear HA
                    simp only [laws_mild.l1] at H
                    by_cases c16 : x5_3 < (a0.size : Int)
                    · rw [if_pos c16] at H
                      have c16b0 : decide (x5_3 < (a0.size : Int)) = true := decide_eq_true c16
                      clear c16
                      by_cases c17 : x5_3 < (wrap64 (x8_1 + 8))
                      · rw [if_pos c17] at H
                        have c17b0 : decide (x5_3 < (wrap64 (x8_1 + 8))) = true := decide_eq_true c17
                        clear c17
                        by_cases c18 : 0 ≤ x5_3
                        · rw [if_pos c18] at H
                          have c18b0 : decide (0 ≤ x5_3) = true := decide_eq_true c18
                          clear c18
                          by_cases c20 : (bt a0 x5_3) ≥ 48
                          · rw [if_pos c20] at H
                            have c20b0 : decide (48 ≤ (bt a0 x5_3)) = true := decide_eq_true c20
                            clear c20
                            by_cases c22 : (bt a0 x5_3) ≤ 57
                            · rw [if_pos c22] at H
                              have c22b0 : decide ((bt a0 x5_3) ≤ 57) = true := decide_eq_true c22
                              clear c22
                              have H' := Aside0.mk H
                              clear H
                              have p19 : 0 ≤ (x5_3 : Int) := of_decide_eq_true (by first | (with_reducible assumption) | assumption)
                              have q19 : x5_3 < (a0.size : Int) := of_decide_eq_true (by first | (with_reducible assumption) | assumption)
                              have hx19 := bt_at a0 x5_3
                              replace p19 := eq_true p19
                              replace q19 := eq_true q19
                              have p21 : 0 ≤ (x5_3 : Int) := of_decide_eq_true (by first | (with_reducible assumption) | assumption)
                              have q21 : x5_3 < (a0.size : Int) := of_decide_eq_true (by first | (with_reducible assumption) | assumption)
                              have hx21 := bt_at a0 x5_3
                              replace p21 := eq_true p21
                              replace q21 := eq_true q21
                              go_wp2
                              go_roundg k3
                              case measure => have := HK1.out; have := HJ5.out; have := HK3.out; omega
                              case rel => exact ⟨(wrap64 (x5_3 + 1)), (by first | rfl | (simp; done) | (simp [*]; done)), H', ⟨by have := HK1.out; have := HJ5.out; have := HK3.out; omega⟩, by repeat (first | exact Drawn0.refl _ | apply Drawn0.step)⟩
                            · rw [if_neg c22] at H
                              have c22b0 : decide ((bt a0 x5_3) ≤ 57) = false := decide_eq_false c22
                              clear c22
                              by_cases c24 : (bt a0 x5_3) = 43
                              · rw [if_pos c24] at H
                                have c24b0 : ((bt a0 x5_3) == 43) = true := beq_iff_eq.mpr c24
                                have c24b1 : ((bt a0 x5_3) != 43) = false := bne_eq_false_iff_eq.mpr c24
                                clear c24
                                have H' := Aside0.mk H
                                clear H
                                have p19 : 0 ≤ (x5_3 : Int) := of_decide_eq_true (by first | (with_reducible assumption) | assumption)
                                have q19 : x5_3 < (a0.size : Int) := of_decide_eq_true (by first | (with_reducible assumption) | assumption)
                                have hx19 := bt_at a0 x5_3
                                replace p19 := eq_true p19
                                replace q19 := eq_true q19
                                have p21 : 0 ≤ (x5_3 : Int) := of_decide_eq_true (by first | (with_reducible assumption) | assumption)
                                have q21 : x5_3 < (a0.size : Int) := of_decide_eq_true (by first | (with_reducible assumption) | assumption)
                                have hx21 := bt_at a0 x5_3
                                replace p21 := eq_true p21
                                replace q21 := eq_true q21
                                have p23 : 0 ≤ (x5_3 : Int) := of_decide_eq_true (by first | (with_reducible assumption) | assumption)
                                have q23 : x5_3 < (a0.size : Int) := of_decide_eq_true (by first | (with_reducible assumption) | assumption)
                                have hx23 := bt_at a0 x5_3
                                replace p23 := eq_true p23
                                replace q23 := eq_true q23
                                go_wp2
                                go_roundg k3
                                case measure => have := HK1.out; have := HJ5.out; have := HK3.out; omega
                                case rel => exact ⟨(wrap64 (x5_3 + 1)), (by first | rfl | (simp; done) | (simp [*]; done)), H', ⟨by have := HK1.out; have := HJ5.out; have := HK3.out; omega⟩, by repeat (first | exact Drawn0.refl _ | apply Drawn0.step)⟩
                              · rw [if_neg c24] at H
                                have c24b0 : ((bt a0 x5_3) == 43) = false := beq_eq_false_iff_ne.mpr c24
                                have c24b1 : ((bt a0 x5_3) != 43) = true := bne_iff_ne.mpr c24
                                by_cases c26 : (bt a0 x5_3) = 45
                                · rw [if_pos c26] at H
                                  have c26b0 : ((bt a0 x5_3) == 45) = true := beq_iff_eq.mpr c26
                                  have c26b1 : ((bt a0 x5_3) != 45) = false := bne_eq_false_iff_eq.mpr c26
                                  clear c26
                                  have H' := Aside0.mk H
                                  clear H
                                  have p19 : 0 ≤ (x5_3 : Int) := of_decide_eq_true (by first | (with_reducible assumption) | assumption)
                                  have q19 : x5_3 < (a0.size : Int) := of_decide_eq_true (by first | (with_reducible assumption) | assumption)
                                  have hx19 := bt_at a0 x5_3
                                  replace p19 := eq_true p19
                                  replace q19 := eq_true q19
                                  have p21 : 0 ≤ (x5_3 : Int) := of_decide_eq_true (by first | (with_reducible assumption) | assumption)
                                  have q21 : x5_3 < (a0.size : Int) := of_decide_eq_true (by first | (with_reducible assumption) | assumption)
                                  have hx21 := bt_at a0 x5_3
                                  replace p21 := eq_true p21
                                  replace q21 := eq_true q21
                                  have p23 : 0 ≤ (x5_3 : Int) := of_decide_eq_true (by first | (with_reducible assumption) | assumption)
                                  have q23 : x5_3 < (a0.size : Int) := of_decide_eq_true (by first | (with_reducible assumption) | assumption)
                                  have hx23 := bt_at a0 x5_3
                                  replace p23 := eq_true p23
                                  replace q23 := eq_true q23
                                  have p25 : 0 ≤ (x5_3 : Int) := of_decide_eq_true (by first | (with_reducible assumption) | assumption)
                                  have q25 : x5_3 < (a0.size : Int) := of_decide_eq_true (by first | (with_reducible assumption) | assumption)
                                  have hx25 := bt_at a0 x5_3
                                  replace p25 := eq_true p25
                                  replace q25 := eq_true q25
                                  go_wp2
                                  go_roundg k3
                                  case measure => have := HK1.out; have := HJ5.out; have := HK3.out; omega
                                  case rel => exact ⟨(wrap64 (x5_3 + 1)), (by first | rfl | (simp; done) | (simp [*]; done)), H', ⟨by have := HK1.out; have := HJ5.out; have := HK3.out; omega⟩, by repeat (first | exact Drawn0.refl _ | apply Drawn0.step)⟩
                                · rw [if_neg c26] at H
                                  have c26b0 : ((bt a0 x5_3) == 45) = false := beq_eq_false_iff_ne.mpr c26
                                  have c26b1 : ((bt a0 x5_3) != 45) = true := bne_iff_ne.mpr c26
                                  by_cases c28 : (bt a0 x5_3) = 95
                                  · rw [if_pos c28] at H
                                    have c28b0 : ((bt a0 x5_3) == 95) = true := beq_iff_eq.mpr c28
                                    have c28b1 : ((bt a0 x5_3) != 95) = false := bne_eq_false_iff_eq.mpr c28
                                    clear c28
                                    have H' := Aside0.mk H
                                    clear H
                                    have p19 : 0 ≤ (x5_3 : Int) := of_decide_eq_true (by first | (with_reducible assumption) | assumption)
                                    have q19 : x5_3 < (a0.size : Int) := of_decide_eq_true (by first | (with_reducible assumption) | assumption)
                                    have hx19 := bt_at a0 x5_3
                                    replace p19 := eq_true p19
                                    replace q19 := eq_true q19
                                    have p21 : 0 ≤ (x5_3 : Int) := of_decide_eq_true (by first | (with_reducible assumption) | assumption)
                                    have q21 : x5_3 < (a0.size : Int) := of_decide_eq_true (by first | (with_reducible assumption) | assumption)
                                    have hx21 := bt_at a0 x5_3
                                    replace p21 := eq_true p21
                                    replace q21 := eq_true q21
                                    have p23 : 0 ≤ (x5_3 : Int) := of_decide_eq_true (by first | (with_reducible assumption) | assumption)
                                    have q23 : x5_3 < (a0.size : Int) := of_decide_eq_true (by first | (with_reducible assumption) | assumption)
                                    have hx23 := bt_at a0 x5_3
                                    replace p23 := eq_true p23
                                    replace q23 := eq_true q23
                                    have p25 : 0 ≤ (x5_3 : Int) := of_decide_eq_true (by first | (with_reducible assumption) | assumption)
                                    have q25 : x5_3 < (a0.size : Int) := of_decide_eq_true (by first | (with_reducible assumption) | assumption)
                                    have hx25 := bt_at a0 x5_3
                                    replace p25 := eq_true p25
                                    replace q25 := eq_true q25
                                    have p27 : 0 ≤ (x5_3 : Int) := of_decide_eq_true (by first | (with_reducible assumption) | assumption)
                                    have q27 : x5_3 < (a0.size : Int) := of_decide_eq_true (by first | (with_reducible assumption) | assumption)
                                    have hx27 := bt_at a0 x5_3
                                    replace p27 := eq_true p27
                                    replace q27 := eq_true q27
                                    go_wp2
                                    go_roundg k3
                                    case measure => have := HK1.out; have := HJ5.out; have := HK3.out; omega
                                    case rel => exact ⟨(wrap64 (x5_3 + 1)), (by first | rfl | (simp; done) | (simp [*]; done)), H', ⟨by have := HK1.out; have := HJ5.out; have := HK3.out; omega⟩, by repeat (first | exact Drawn0.refl _ | apply Drawn0.step)⟩
                                  · rw [if_neg c28] at H
                                    have c28b0 : ((bt a0 x5_3) == 95) = false := beq_eq_false_iff_ne.mpr c28
                                    have c28b1 : ((bt a0 x5_3) != 95) = true := bne_iff_ne.mpr c28
                                    by_cases c29 : x5_3 > (wrap64 (x8_1 + 6))
                                    · rw [if_pos c29] at H
                                      have c29b0 : decide ((wrap64 (x8_1 + 6)) < x5_3) = true := decide_eq_true c29
                                      clear c29
                                      obtain rfl := Option.some.inj H
                                      have p19 : 0 ≤ (x5_3 : Int) := of_decide_eq_true (by first | (with_reducible assumption) | assumption)
                                      have q19 : x5_3 < (a0.size : Int) := of_decide_eq_true (by first | (with_reducible assumption) | assumption)
                                      have hx19 := bt_at a0 x5_3
                                      replace p19 := eq_true p19
                                      replace q19 := eq_true q19
                                      have p21 : 0 ≤ (x5_3 : Int) := of_decide_eq_true (by first | (with_reducible assumption) | assumption)
                                      have q21 : x5_3 < (a0.size : Int) := of_decide_eq_true (by first | (with_reducible assumption) | assumption)
                                      have hx21 := bt_at a0 x5_3
                                      replace p21 := eq_true p21
                                      replace q21 := eq_true q21
                                      have p23 : 0 ≤ (x5_3 : Int) := of_decide_eq_true (by first | (with_reducible assumption) | assumption)
                                      have q23 : x5_3 < (a0.size : Int) := of_decide_eq_true (by first | (with_reducible assumption) | assumption)
                                      have hx23 := bt_at a0 x5_3
                                      replace p23 := eq_true p23
                                      replace q23 := eq_true q23
                                      have p25 : 0 ≤ (x5_3 : Int) := of_decide_eq_true (by first | (with_reducible assumption) | assumption)
                                      have q25 : x5_3 < (a0.size : Int) := of_decide_eq_true (by first | (with_reducible assumption) | assumption)
                                      have hx25 := bt_at a0 x5_3
                                      replace p25 := eq_true p25
                                      replace q25 := eq_true q25
                                      have p27 : 0 ≤ (x5_3 : Int) := of_decide_eq_true (by first | (with_reducible assumption) | assumption)
                                      have q27 : x5_3 < (a0.size : Int) := of_decide_eq_true (by first | (with_reducible assumption) | assumption)
                                      have hx27 := bt_at a0 x5_3
                                      replace p27 := eq_true p27
                                      replace q27 := eq_true q27
                                      go_wp2
                                      go_ret
                                      exact ⟨by first | rfl | (simp; done) | (simp [*]; done), by repeat (first | exact Drawn0.refl _ | apply Drawn0.step)⟩
                                    · rw [if_neg c29] at H
                                      have c29b0 : decide ((wrap64 (x8_1 + 6)) < x5_3) = false := decide_eq_false c29
                                      clear c29
                                      have H' := Aside0.mk H
                                      clear H
                                      have p19 : 0 ≤ (x5_3 : Int) := of_decide_eq_true (by first | (with_reducible assumption) | assumption)
                                      have q19 : x5_3 < (a0.size : Int) := of_decide_eq_true (by first | (with_reducible assumption) | assumption)
                                      have hx19 := bt_at a0 x5_3
                                      replace p19 := eq_true p19
                                      replace q19 := eq_true q19
                                      have p21 : 0 ≤ (x5_3 : Int) := of_decide_eq_true (by first | (with_reducible assumption) | assumption)
                                      have q21 : x5_3 < (a0.size : Int) := of_decide_eq_true (by first | (with_reducible assumption) | assumption)
                                      have hx21 := bt_at a0 x5_3
                                      replace p21 := eq_true p21
                                      replace q21 := eq_true q21
                                      have p23 : 0 ≤ (x5_3 : Int) := of_decide_eq_true (by first | (with_reducible assumption) | assumption)
                                      have q23 : x5_3 < (a0.size : Int) := of_decide_eq_true (by first | (with_reducible assumption) | assumption)
                                      have hx23 := bt_at a0 x5_3
                                      replace p23 := eq_true p23
                                      replace q23 := eq_true q23
                                      have p25 : 0 ≤ (x5_3 : Int) := of_decide_eq_true (by first | (with_reducible assumption) | assumption)
                                      have q25 : x5_3 < (a0.size : Int) := of_decide_eq_true (by first | (with_reducible assumption) | assumption)
                                      have hx25 := bt_at a0 x5_3
                                      replace p25 := eq_true p25
                                      replace q25 := eq_true q25
                                      have p27 : 0 ≤ (x5_3 : Int) := of_decide_eq_true (by first | (with_reducible assumption) | assumption)
                                      have q27 : x5_3 < (a0.size : Int) := of_decide_eq_true (by first | (with_reducible assumption) | assumption)
                                      have hx27 := bt_at a0 x5_3
                                      replace p27 := eq_true p27
                                      replace q27 := eq_true q27
                                      go_wp2
                                      go_roundg k3
                                      case measure => have := HK1.out; have := HJ5.out; have := HK3.out; omega
                                      case rel => exact ⟨(x3_5), (wrap64 (x8_1 + 1)), (by first | rfl | (simp; done) | (simp [*]; done)), (by first | rfl | (simp; done) | (simp [*]; done)), H', ⟨by have := HK1.out; have := HJ5.out; have := HK3.out; omega⟩, by repeat (first | exact Drawn0.refl _ | apply Drawn0.step)⟩
                          · rw [if_neg c20] at H
                            have c20b0 : decide (48 ≤ (bt a0 x5_3)) = false := decide_eq_false c20
                            clear c20
                            by_cases c31 : (bt a0 x5_3) = 43
                            · rw [if_pos c31] at H
                              have c31b0 : ((bt a0 x5_3) == 43) = true := beq_iff_eq.mpr c31
                              have c31b1 : ((bt a0 x5_3) != 43) = false := bne_eq_false_iff_eq.mpr c31
                              clear c31
                              have H' := Aside0.mk H
                              clear H
                              have p19 : 0 ≤ (x5_3 : Int) := of_decide_eq_true (by first | (with_reducible assumption) | assumption)
                              have q19 : x5_3 < (a0.size : Int) := of_decide_eq_true (by first | (with_reducible assumption) | assumption)
                              have hx19 := bt_at a0 x5_3
                              replace p19 := eq_true p19
                              replace q19 := eq_true q19
                              have p30 : 0 ≤ (x5_3 : Int) := of_decide_eq_true (by first | (with_reducible assumption) | assumption)
                              have q30 : x5_3 < (a0.size : Int) := of_decide_eq_true (by first | (with_reducible assumption) | assumption)
                              have hx30 := bt_at a0 x5_3
                              replace p30 := eq_true p30
                              replace q30 := eq_true q30
                              go_wp2
                              go_roundg k3
                              case measure => have := HK1.out; have := HJ5.out; have := HK3.out; omega
                              case rel => exact ⟨(wrap64 (x5_3 + 1)), (by first | rfl | (simp; done) | (simp [*]; done)), H', ⟨by have := HK1.out; have := HJ5.out; have := HK3.out; omega⟩, by repeat (first | exact Drawn0.refl _ | apply Drawn0.step)⟩
                            · rw [if_neg c31] at H
                              have c31b0 : ((bt a0 x5_3) == 43) = false := beq_eq_false_iff_ne.mpr c31
                              have c31b1 : ((bt a0 x5_3) != 43) = true := bne_iff_ne.mpr c31
                              by_cases c33 : (bt a0 x5_3) = 45
                              · rw [if_pos c33] at H
                                have c33b0 : ((bt a0 x5_3) == 45) = true := beq_iff_eq.mpr c33
                                have c33b1 : ((bt a0 x5_3) != 45) = false := bne_eq_false_iff_eq.mpr c33
                                clear c33
                                have H' := Aside0.mk H
                                clear H
                                have p19 : 0 ≤ (x5_3 : Int) := of_decide_eq_true (by first | (with_reducible assumption) | assumption)
                                have q19 : x5_3 < (a0.size : Int) := of_decide_eq_true (by first | (with_reducible assumption) | assumption)
                                have hx19 := bt_at a0 x5_3
                                replace p19 := eq_true p19
                                replace q19 := eq_true q19
                                have p30 : 0 ≤ (x5_3 : Int) := of_decide_eq_true (by first | (with_reducible assumption) | assumption)
                                have q30 : x5_3 < (a0.size : Int) := of_decide_eq_true (by first | (with_reducible assumption) | assumption)
                                have hx30 := bt_at a0 x5_3
                                replace p30 := eq_true p30
                                replace q30 := eq_true q30
                                have p32 : 0 ≤ (x5_3 : Int) := of_decide_eq_true (by first | (with_reducible assumption) | assumption)
                                have q32 : x5_3 < (a0.size : Int) := of_decide_eq_true (by first | (with_reducible assumption) | assumption)
                                have hx32 := bt_at a0 x5_3
                                replace p32 := eq_true p32
                                replace q32 := eq_true q32
                                go_wp2
                                go_roundg k3
                                case measure => have := HK1.out; have := HJ5.out; have := HK3.out; omega
                                case rel => exact ⟨(wrap64 (x5_3 + 1)), (by first | rfl | (simp; done) | (simp [*]; done)), H', ⟨by have := HK1.out; have := HJ5.out; have := HK3.out; omega⟩, by repeat (first | exact Drawn0.refl _ | apply Drawn0.step)⟩
                              · rw [if_neg c33] at H
                                have c33b0 : ((bt a0 x5_3) == 45) = false := beq_eq_false_iff_ne.mpr c33
                                have c33b1 : ((bt a0 x5_3) != 45) = true := bne_iff_ne.mpr c33
                                by_cases c35 : (bt a0 x5_3) = 95
                                · rw [if_pos c35] at H
                                  have c35b0 : ((bt a0 x5_3) == 95) = true := beq_iff_eq.mpr c35
                                  have c35b1 : ((bt a0 x5_3) != 95) = false := bne_eq_false_iff_eq.mpr c35
                                  clear c35
                                  have H' := Aside0.mk H
                                  clear H
                                  have p19 : 0 ≤ (x5_3 : Int) := of_decide_eq_true (by first | (with_reducible assumption) | assumption)
                                  have q19 : x5_3 < (a0.size : Int) := of_decide_eq_true (by first | (with_reducible assumption) | assumption)
                                  have hx19 := bt_at a0 x5_3
                                  replace p19 := eq_true p19
                                  replace q19 := eq_true q19
                                  have p30 : 0 ≤ (x5_3 : Int) := of_decide_eq_true (by first | (with_reducible assumption) | assumption)
                                  have q30 : x5_3 < (a0.size : Int) := of_decide_eq_true (by first | (with_reducible assumption) | assumption)
                                  have hx30 := bt_at a0 x5_3
                                  replace p30 := eq_true p30
                                  replace q30 := eq_true q30
                                  have p32 : 0 ≤ (x5_3 : Int) := of_decide_eq_true (by first | (with_reducible assumption) | assumption)
                                  have q32 : x5_3 < (a0.size : Int) := of_decide_eq_true (by first | (with_reducible assumption) | assumption)
                                  have hx32 := bt_at a0 x5_3
                                  replace p32 := eq_true p32
                                  replace q32 := eq_true q32
                                  have p34 : 0 ≤ (x5_3 : Int) := of_decide_eq_true (by first | (with_reducible assumption) | assumption)
                                  have q34 : x5_3 < (a0.size : Int) := of_decide_eq_true (by first | (with_reducible assumption) | assumption)
                                  have hx34 := bt_at a0 x5_3
                                  replace p34 := eq_true p34
                                  replace q34 := eq_true q34
                                  go_wp2
                                  go_roundg k3
                                  case measure => have := HK1.out; have := HJ5.out; have := HK3.out; omega
                                  case rel => exact ⟨(wrap64 (x5_3 + 1)), (by first | rfl | (simp; done) | (simp [*]; done)), H', ⟨by have := HK1.out; have := HJ5.out; have := HK3.out; omega⟩, by repeat (first | exact Drawn0.refl _ | apply Drawn0.step)⟩
                                · rw [if_neg c35] at H
                                  have c35b0 : ((bt a0 x5_3) == 95) = false := beq_eq_false_iff_ne.mpr c35
                                  have c35b1 : ((bt a0 x5_3) != 95) = true := bne_iff_ne.mpr c35
                                  by_cases c36 : x5_3 > (wrap64 (x8_1 + 6))
                                  · rw [if_pos c36] at H
                                    have c36b0 : decide ((wrap64 (x8_1 + 6)) < x5_3) = true := decide_eq_true c36
                                    clear c36
                                    obtain rfl := Option.some.inj H
                                    have p19 : 0 ≤ (x5_3 : Int) := of_decide_eq_true (by first | (with_reducible assumption) | assumption)
                                    have q19 : x5_3 < (a0.size : Int) := of_decide_eq_true (by first | (with_reducible assumption) | assumption)
                                    have hx19 := bt_at a0 x5_3
                                    replace p19 := eq_true p19
                                    replace q19 := eq_true q19
                                    have p30 : 0 ≤ (x5_3 : Int) := of_decide_eq_true (by first | (with_reducible assumption) | assumption)
                                    have q30 : x5_3 < (a0.size : Int) := of_decide_eq_true (by first | (with_reducible assumption) | assumption)
                                    have hx30 := bt_at a0 x5_3
                                    replace p30 := eq_true p30
                                    replace q30 := eq_true q30
                                    have p32 : 0 ≤ (x5_3 : Int) := of_decide_eq_true (by first | (with_reducible assumption) | assumption)
                                    have q32 : x5_3 < (a0.size : Int) := of_decide_eq_true (by first | (with_reducible assumption) | assumption)
                                    have hx32 := bt_at a0 x5_3
                                    replace p32 := eq_true p32
                                    replace q32 := eq_true q32
                                    have p34 : 0 ≤ (x5_3 : Int) := of_decide_eq_true (by first | (with_reducible assumption) | assumption)
                                    have q34 : x5_3 < (a0.size : Int) := of_decide_eq_true (by first | (with_reducible assumption) | assumption)
                                    have hx34 := bt_at a0 x5_3
                                    replace p34 := eq_true p34
                                    replace q34 := eq_true q34
                                    go_wp2
                                    go_ret
                                    exact ⟨by first | rfl | (simp; done) | (simp [*]; done), by repeat (first | exact Drawn0.refl _ | apply Drawn0.step)⟩
                                  · rw [if_neg c36] at H
                                    have c36b0 : decide ((wrap64 (x8_1 + 6)) < x5_3) = false := decide_eq_false c36
                                    clear c36
                                    have H' := Aside0.mk H
                                    clear H
                                    have p19 : 0 ≤ (x5_3 : Int) := of_decide_eq_true (by first | (with_reducible assumption) | assumption)
                                    have q19 : x5_3 < (a0.size : Int) := of_decide_eq_true (by first | (with_reducible assumption) | assumption)
                                    have hx19 := bt_at a0 x5_3
                                    replace p19 := eq_true p19
                                    replace q19 := eq_true q19
                                    have p30 : 0 ≤ (x5_3 : Int) := of_decide_eq_true (by first | (with_reducible assumption) | assumption)
                                    have q30 : x5_3 < (a0.size : Int) := of_decide_eq_true (by first | (with_reducible assumption) | assumption)
                                    have hx30 := bt_at a0 x5_3
                                    replace p30 := eq_true p30
                                    replace q30 := eq_true q30
                                    have p32 : 0 ≤ (x5_3 : Int) := of_decide_eq_true (by first | (with_reducible assumption) | assumption)
                                    have q32 : x5_3 < (a0.size : Int) := of_decide_eq_true (by first | (with_reducible assumption) | assumption)
                                    have hx32 := bt_at a0 x5_3
                                    replace p32 := eq_true p32
                                    replace q32 := eq_true q32
                                    have p34 : 0 ≤ (x5_3 : Int) := of_decide_eq_true (by first | (with_reducible assumption) | assumption)
                                    have q34 : x5_3 < (a0.size : Int) := of_decide_eq_true (by first | (with_reducible assumption) | assumption)
                                    have hx34 := bt_at a0 x5_3
                                    replace p34 := eq_true p34
                                    replace q34 := eq_true q34
                                    go_wp2
                                    go_roundg k3
                                    case measure => have := HK1.out; have := HJ5.out; have := HK3.out; omega
                                    case rel => exact ⟨(x3_5), (wrap64 (x8_1 + 1)), (by first | rfl | (simp; done) | (simp [*]; done)), (by first | rfl | (simp; done) | (simp [*]; done)), H', ⟨by have := HK1.out; have := HJ5.out; have := HK3.out; omega⟩, by repeat (first | exact Drawn0.refl _ | apply Drawn0.step)⟩
                        · rw [if_neg c18] at H
                          exact absurd H (by simp)
                      · rw [if_neg c17] at H
                        have c17b0 : decide (x5_3 < (wrap64 (x8_1 + 8))) = false := decide_eq_false c17
                        clear c17
                        by_cases c37 : x5_3 > (wrap64 (x8_1 + 6))
                        · rw [if_pos c37] at H
                          have c37b0 : decide ((wrap64 (x8_1 + 6)) < x5_3) = true := decide_eq_true c37
                          clear c37
                          obtain rfl := Option.some.inj H
                          go_wp2
                          go_ret
                          exact ⟨by first | rfl | (simp; done) | (simp [*]; done), by repeat (first | exact Drawn0.refl _ | apply Drawn0.step)⟩
                        · rw [if_neg c37] at H
                          have c37b0 : decide ((wrap64 (x8_1 + 6)) < x5_3) = false := decide_eq_false c37
                          clear c37
                          have H' := Aside0.mk H
                          clear H
                          go_wp2
                          go_roundg k3
                          case measure => have := HK1.out; have := HJ5.out; have := HK3.out; omega
                          case rel => exact ⟨(x3_5), (wrap64 (x8_1 + 1)), (by first | rfl | (simp; done) | (simp [*]; done)), (by first | rfl | (simp; done) | (simp [*]; done)), H', ⟨by have := HK1.out; have := HJ5.out; have := HK3.out; omega⟩, by repeat (first | exact Drawn0.refl _ | apply Drawn0.step)⟩
                    · rw [if_neg c16] at H
                      have c16b0 : decide (x5_3 < (a0.size : Int)) = false := decide_eq_false c16
                      clear c16
                      by_cases c38 : x5_3 > (wrap64 (x8_1 + 6))
                      · rw [if_pos c38] at H
                        have c38b0 : decide ((wrap64 (x8_1 + 6)) < x5_3) = true := decide_eq_true c38
                        clear c38
                        obtain rfl := Option.some.inj H
                        go_wp2
                        go_ret
                        exact ⟨by first | rfl | (simp; done) | (simp [*]; done), by repeat (first | exact Drawn0.refl _ | apply Drawn0.step)⟩
                      · rw [if_neg c38] at H
                        have c38b0 : decide ((wrap64 (x8_1 + 6)) < x5_3) = false := decide_eq_false c38
                        clear c38
                        have H' := Aside0.mk H
                        clear H
                        go_wp2
                        go_roundg k3
                        case measure => have := HK1.out; have := HJ5.out; have := HK3.out; omega
                        case rel => exact ⟨(x3_5), (wrap64 (x8_1 + 1)), (by first | rfl | (simp; done) | (simp [*]; done)), (by first | rfl | (simp; done) | (simp [*]; done)), H', ⟨by have := HK1.out; have := HJ5.out; have := HK3.out; omega⟩, by repeat (first | exact Drawn0.refl _ | apply Drawn0.step)⟩
          · rw [if_neg c4] at H
            exact absurd H (by simp)
        · rw [if_neg c3] at H
          exact absurd H (by simp)
      · rw [if_neg c2] at H
        have c2b0 : decide (x8_1 < (a0.size : Int)) = false := decide_eq_false c2
        clear c2
        obtain rfl := Option.some.inj H
        go_wp2
        go_ret
        exact ⟨by first | rfl | (simp; done) | (simp [*]; done), by repeat (first | exact Drawn0.refl _ | apply Drawn0.step)⟩

end Go.Proofs.YtkogipaaioibaaaGreatDoor.PAll
