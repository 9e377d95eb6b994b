/- The Lean function of gonsq_validTopicChannelName and its contract: the Go function comes to exactly what the Lean function answers (laid by the kit's print program). -/
import Derived.Test.YtnbhledkdkchlaaPAllx0
import Derived.Test.YtnbhledkdkchlaaPstringsTrimSuffix
namespace Go.Proofs.Ytnbhledkdkchlaa.PAll
open Go.RowKit Go.Proofs.YtnbhledkdkchlaaW.PrintWords Go.Proofs.YtnbhledkdkchlaaW.PrintLast Go.Proofs.YtnbhledkdkchlaaW.PrintMore
attribute [local go_sem] max2_int min2_int max_two min_two max_three min_three max_four min_four   -- for this text's walks alone
set_option linter.unusedVariables false
set_option linter.unusedSimpArgs false


/-! ### gonsq_validTopicChannelName: function 86 -/
def gonsq_validTopicChannelName.l0 : Nat → ByteArray → Int → Int → Option (Bool)
  | 0, _, _, _ => none
  | k + 1, x0, x8, x9 => if x9 < x8 then (if 0 ≤ x9 then (if x9 < (x0.size : Int) then (if (bt x0 x9) = 46 then (gonsq_validTopicChannelName.l0 k x0 x8 (wrap64 (x9 + 1))) else (if (bt x0 x9) = 95 then (gonsq_validTopicChannelName.l0 k x0 x8 (wrap64 (x9 + 1))) else (if (bt x0 x9) = 45 then (gonsq_validTopicChannelName.l0 k x0 x8 (wrap64 (x9 + 1))) else (if (bt x0 x9) < 48 then (if (bt x0 x9) < 97 then (if (bt x0 x9) < 65 then (some false) else (if (bt x0 x9) > 90 then (some false) else (gonsq_validTopicChannelName.l0 k x0 x8 (wrap64 (x9 + 1))))) else (if (bt x0 x9) > 122 then (if (bt x0 x9) < 65 then (some false) else (if (bt x0 x9) > 90 then (some false) else (gonsq_validTopicChannelName.l0 k x0 x8 (wrap64 (x9 + 1))))) else (gonsq_validTopicChannelName.l0 k x0 x8 (wrap64 (x9 + 1))))) else (if (bt x0 x9) > 57 then (if (bt x0 x9) < 97 then (if (bt x0 x9) < 65 then (some false) else (if (bt x0 x9) > 90 then (some false) else (gonsq_validTopicChannelName.l0 k x0 x8 (wrap64 (x9 + 1))))) else (if (bt x0 x9) > 122 then (if (bt x0 x9) < 65 then (some false) else (if (bt x0 x9) > 90 then (some false) else (gonsq_validTopicChannelName.l0 k x0 x8 (wrap64 (x9 + 1))))) else (gonsq_validTopicChannelName.l0 k x0 x8 (wrap64 (x9 + 1))))) else (gonsq_validTopicChannelName.l0 k x0 x8 (wrap64 (x9 + 1)))))))) else (none)) else (none)) else (some (x0.toList != ([] : List UInt8)))
def gonsq_validTopicChannelName.f (k : Nat) (a0 : ByteArray) : Option (Bool) := (strings_TrimSuffix.f a0 (⟨#[35, 101, 112, 104, 101, 109, 101, 114, 97, 108]⟩ : ByteArray)).bind fun t135 => (gonsq_validTopicChannelName.l0 k t135 (t135.size : Int) 0)
theorem gonsq_validTopicChannelName.mono_l : ∀ k, (∀ y0 y1 y2, LeO (gonsq_validTopicChannelName.l0 k y0 y1 y2) (gonsq_validTopicChannelName.l0 (k + 1) y0 y1 y2))
  | 0 => fun _ _ _ r h => by simp [gonsq_validTopicChannelName.l0] at h
  | k + 1 => by
    have ih0 := gonsq_validTopicChannelName.mono_l k
    · intro y0 y1 y2
      unfold gonsq_validTopicChannelName.l0
      repeat' first
      | (with_reducible exact ih0 _ _ _)
      | (with_reducible exact LeO.refl _)
      | (with_reducible exact LeO.none _)
      | (with_reducible refine LeO.ite ?_ ?_)
      | (with_reducible refine LeO.bind ?_ (fun _ => ?_))
      | exact ih0 _ _ _
      | exact LeO.none _
      | refine LeO.ite ?_ ?_
      | refine LeO.bind ?_ (fun _ => ?_)
theorem gonsq_validTopicChannelName.mono : ∀ a0 k, LeO (gonsq_validTopicChannelName.f k a0) (gonsq_validTopicChannelName.f (k + 1) a0) := by
  intro a0 k
  have ih0 := gonsq_validTopicChannelName.mono_l k
  unfold gonsq_validTopicChannelName.f
  repeat' first
      | (with_reducible exact ih0 _ _ _)
      | (with_reducible exact LeO.refl _)
      | (with_reducible exact LeO.none _)
      | (with_reducible refine LeO.ite ?_ ?_)
      | (with_reducible refine LeO.bind ?_ (fun _ => ?_))
      | exact ih0 _ _ _
      | exact LeO.none _
      | refine LeO.ite ?_ ?_
      | refine LeO.bind ?_ (fun _ => ?_)
set_option maxHeartbeats 8000000 in
set_option maxRecDepth 100000 in
theorem gonsq_validTopicChannelName.calls (k : Nat) (a0 : ByteArray) (r : Bool) (w : World) (h : gonsq_validTopicChannelName.f k a0 = some r) :
    Calls Try.prog 86 #[.string a0] w fun e w' => e = .returned (.bool r) ∧ Drawn0 w w' := by
  have H : ((strings_TrimSuffix.f a0 (⟨#[35, 101, 112, 104, 101, 109, 101, 114, 97, 108]⟩ : ByteArray)).bind fun t135 => (gonsq_validTopicChannelName.l0 k t135 (t135.size : Int) 0)) = some r := h
  clear h
  replace H := Option.bind_eq_some_iff.mp H
  obtain ⟨t135, A20, H⟩ := H
  replace H : (gonsq_validTopicChannelName.l0 k t135 (t135.size : Int) 0) = some r := H
  have A2 := Aside0.mk A20
  clear A20
  have H' := Aside0.mk H
  clear H
  go_enter Try.func86, Try.ntmps86
  go_wp2_with (first | ((with_reducible refine gate_callee (f := 94) rfl ?_); refine goesL_ (some 6) rfl rfl Try.func94 (by kernel_rfl) rfl #[.string a0, .string (⟨#[35, 101, 112, 104, 101, 109, 101, 114, 97, 108]⟩ : ByteArray)] rfl (by (try simp only [List.map_toArray, List.map_cons, List.map_nil]); first | done | rfl | (simp only [List.length_drop, List.length_take]; rfl)) ?_; (with_reducible refine (strings_TrimSuffix.calls a0 (⟨#[35, 101, 112, 104, 101, 109, 101, 114, 97, 108]⟩ : ByteArray) t135 _ A2.out).mono ?_); rintro e w' ⟨rfl, ⟨nd, rfl⟩⟩; refine ⟨_, rfl, ?_⟩))
  go_loopg [9] k (fun kq v9 w' => ∃ (x9_1 : Int), v9 = .int .i64 x9_1 ∧ Aside0 (gonsq_validTopicChannelName.l0 kq t135 (t135.size : Int) x9_1 = some r) ∧ Aside0 (kq ≤ k) ∧ Drawn0 w w')
  case atStart => exact ⟨(0), (by first | rfl | (simp; done) | (simp [*]; done)), H', ⟨Nat.le_refl _⟩, by repeat (first | exact Drawn0.refl _ | apply Drawn0.step)⟩
  case round =>
    clear H'
    try clear p2
    obtain ⟨x9_1, rfl, HA, HK1, ⟨m1, rfl⟩⟩ := hrel
    cases gk with
    | zero => exact absurd HA.out (by simp [gonsq_validTopicChannelName.l0])
    | succ k1 =>
      have H := HA.out
      clear HA
      simp only [gonsq_validTopicChannelName.l0] at H
      by_cases c3 : x9_1 < (t135.size : Int)
      · rw [if_pos c3] at H
        have c3b0 : decide (x9_1 < (t135.size : Int)) = true := decide_eq_true c3
        clear c3
        by_cases c4 : 0 ≤ x9_1
        · rw [if_pos c4] at H
          have c4b0 : decide (0 ≤ x9_1) = true := decide_eq_true c4
          clear c4
          by_cases c5 : x9_1 < (t135.size : Int)
          · rw [if_pos c5] at H
            have c5b0 : decide (x9_1 < (t135.size : Int)) = true := decide_eq_true c5
            clear c5
            by_cases c7 : (bt t135 x9_1) = 46
            · rw [if_pos c7] at H
              have c7b0 : ((bt t135 x9_1) == 46) = true := beq_iff_eq.mpr c7
              have c7b1 : ((bt t135 x9_1) != 46) = false := bne_eq_false_iff_eq.mpr c7
              clear c7
              have H' := Aside0.mk H
              clear H
              have p6 : 0 ≤ (x9_1 : Int) := of_decide_eq_true (by first | (with_reducible assumption) | assumption)
              have q6 : x9_1 < (t135.size : Int) := of_decide_eq_true (by first | (with_reducible assumption) | assumption)
              have hx6 := bt_at t135 x9_1
              replace p6 := eq_true p6
              replace q6 := eq_true q6
              go_wp2
              go_roundg k1
              case measure => have := HK1.out; omega
              case rel => exact ⟨(wrap64 (x9_1 + 1)), (by first | rfl | (simp; done) | (simp [*]; done)), H', ⟨by have := HK1.out; omega⟩, by repeat (first | exact Drawn0.refl _ | apply Drawn0.step)⟩
            · rw [if_neg c7] at H
              have c7b0 : ((bt t135 x9_1) == 46) = false := beq_eq_false_iff_ne.mpr c7
              have c7b1 : ((bt t135 x9_1) != 46) = true := bne_iff_ne.mpr c7
              by_cases c8 : (bt t135 x9_1) = 95
              · rw [if_pos c8] at H
                have c8b0 : ((bt t135 x9_1) == 95) = true := beq_iff_eq.mpr c8
                have c8b1 : ((bt t135 x9_1) != 95) = false := bne_eq_false_iff_eq.mpr c8
                clear c8
                have H' := Aside0.mk H
                clear H
                have p6 : 0 ≤ (x9_1 : Int) := of_decide_eq_true (by first | (with_reducible assumption) | assumption)
                have q6 : x9_1 < (t135.size : Int) := of_decide_eq_true (by first | (with_reducible assumption) | assumption)
                have hx6 := bt_at t135 x9_1
                replace p6 := eq_true p6
                replace q6 := eq_true q6
                go_wp2
                go_roundg k1
                case measure => have := HK1.out; omega
                case rel => exact ⟨(wrap64 (x9_1 + 1)), (by first | rfl | (simp; done) | (simp [*]; done)), H', ⟨by have := HK1.out; omega⟩, by repeat (first | exact Drawn0.refl _ | apply Drawn0.step)⟩
              · rw [if_neg c8] at H
                have c8b0 : ((bt t135 x9_1) == 95) = false := beq_eq_false_iff_ne.mpr c8
                have c8b1 : ((bt t135 x9_1) != 95) = true := bne_iff_ne.mpr c8
                by_cases c9 : (bt t135 x9_1) = 45
                · rw [if_pos c9] at H
                  have c9b0 : ((bt t135 x9_1) == 45) = true := beq_iff_eq.mpr c9
                  have c9b1 : ((bt t135 x9_1) != 45) = false := bne_eq_false_iff_eq.mpr c9
                  clear c9
                  have H' := Aside0.mk H
                  clear H
                  have p6 : 0 ≤ (x9_1 : Int) := of_decide_eq_true (by first | (with_reducible assumption) | assumption)
                  have q6 : x9_1 < (t135.size : Int) := of_decide_eq_true (by first | (with_reducible assumption) | assumption)
                  have hx6 := bt_at t135 x9_1
                  replace p6 := eq_true p6
                  replace q6 := eq_true q6
                  go_wp2
                  go_roundg k1
                  case measure => have := HK1.out; omega
                  case rel => exact ⟨(wrap64 (x9_1 + 1)), (by first | rfl | (simp; done) | (simp [*]; done)), H', ⟨by have := HK1.out; omega⟩, by repeat (first | exact Drawn0.refl _ | apply Drawn0.step)⟩
                · rw [if_neg c9] at H
                  have c9b0 : ((bt t135 x9_1) == 45) = false := beq_eq_false_iff_ne.mpr c9
                  have c9b1 : ((bt t135 x9_1) != 45) = true := bne_iff_ne.mpr c9
                  by_cases c10 : (bt t135 x9_1) < 48
                  · rw [if_pos c10] at H
                    have c10b0 : decide ((bt t135 x9_1) < 48) = true := decide_eq_true c10
                    clear c10
                    by_cases c11 : (bt t135 x9_1) < 97
                    · rw [if_pos c11] at H
                      have c11b0 : decide ((bt t135 x9_1) < 97) = true := decide_eq_true c11
                      clear c11
                      by_cases c12 : (bt t135 x9_1) < 65
                      · rw [if_pos c12] at H
                        have c12b0 : decide ((bt t135 x9_1) < 65) = true := decide_eq_true c12
                        clear c12
                        obtain rfl := Option.some.inj H
                        have p6 : 0 ≤ (x9_1 : Int) := of_decide_eq_true (by first | (with_reducible assumption) | assumption)
                        have q6 : x9_1 < (t135.size : Int) := of_decide_eq_true (by first | (with_reducible assumption) | assumption)
                        have hx6 := bt_at t135 x9_1
                        replace p6 := eq_true p6
                        replace q6 := eq_true q6
                        go_wp2
                        go_ret
                        exact ⟨by first | rfl | (simp; done) | (simp [*]; done), by repeat (first | exact Drawn0.refl _ | apply Drawn0.step)⟩
                      · rw [if_neg c12] at H
                        have c12b0 : decide ((bt t135 x9_1) < 65) = false := decide_eq_false c12
                        clear c12
                        by_cases c13 : (bt t135 x9_1) > 90
                        · rw [if_pos c13] at H
                          have c13b0 : decide (90 < (bt t135 x9_1)) = true := decide_eq_true c13
                          clear c13
                          obtain rfl := Option.some.inj H
                          have p6 : 0 ≤ (x9_1 : Int) := of_decide_eq_true (by first | (with_reducible assumption) | assumption)
                          have q6 : x9_1 < (t135.size : Int) := of_decide_eq_true (by first | (with_reducible assumption) | assumption)
                          have hx6 := bt_at t135 x9_1
                          replace p6 := eq_true p6
                          replace q6 := eq_true q6
                          go_wp2
                          go_ret
                          exact ⟨by first | rfl | (simp; done) | (simp [*]; done), by repeat (first | exact Drawn0.refl _ | apply Drawn0.step)⟩
                        · rw [if_neg c13] at H
                          have c13b0 : decide (90 < (bt t135 x9_1)) = false := decide_eq_false c13
                          clear c13
                          have H' := Aside0.mk H
                          clear H
                          have p6 : 0 ≤ (x9_1 : Int) := of_decide_eq_true (by first | (with_reducible assumption) | assumption)
                          have q6 : x9_1 < (t135.size : Int) := of_decide_eq_true (by first | (with_reducible assumption) | assumption)
                          have hx6 := bt_at t135 x9_1
                          replace p6 := eq_true p6
                          replace q6 := eq_true q6
                          go_wp2
                          go_roundg k1
                          case measure => have := HK1.out; omega
                          case rel => exact ⟨(wrap64 (x9_1 + 1)), (by first | rfl | (simp; done) | (simp [*]; done)), H', ⟨by have := HK1.out; omega⟩, by repeat (first | exact Drawn0.refl _ | apply Drawn0.step)⟩
                    · rw [if_neg c11] at H
                      have c11b0 : decide ((bt t135 x9_1) < 97) = false := decide_eq_false c11
                      clear c11
                      by_cases c14 : (bt t135 x9_1) > 122
                      · rw [if_pos c14] at H
                        have c14b0 : decide (122 < (bt t135 x9_1)) = true := decide_eq_true c14
                        clear c14
                        by_cases c15 : (bt t135 x9_1) < 65
                        · rw [if_pos c15] at H
                          have c15b0 : decide ((bt t135 x9_1) < 65) = true := decide_eq_true c15
                          clear c15
                          obtain rfl := Option.some.inj H
                          have p6 : 0 ≤ (x9_1 : Int) := of_decide_eq_true (by first | (with_reducible assumption) | assumption)
                          have q6 : x9_1 < (t135.size : Int) := of_decide_eq_true (by first | (with_reducible assumption) | assumption)
                          have hx6 := bt_at t135 x9_1
                          replace p6 := eq_true p6
                          replace q6 := eq_true q6
                          go_wp2
                          go_ret
                          exact ⟨by first | rfl | (simp; done) | (simp [*]; done), by repeat (first | exact Drawn0.refl _ | apply Drawn0.step)⟩
                        · rw [if_neg c15] at H
                          have c15b0 : decide ((bt t135 x9_1) < 65) = false := decide_eq_false c15
                          clear c15
                          by_cases c16 : (bt t135 x9_1) > 90
                          · rw [if_pos c16] at H
                            have c16b0 : decide (90 < (bt t135 x9_1)) = true := decide_eq_true c16
                            clear c16
                            obtain rfl := Option.some.inj H
                            have p6 : 0 ≤ (x9_1 : Int) := of_decide_eq_true (by first | (with_reducible assumption) | assumption)
                            have q6 : x9_1 < (t135.size : Int) := of_decide_eq_true (by first | (with_reducible assumption) | assumption)
                            have hx6 := bt_at t135 x9_1
                            replace p6 := eq_true p6
                            replace q6 := eq_true q6
                            go_wp2
                            go_ret
                            exact ⟨by first | rfl | (simp; done) | (simp [*]; done), by repeat (first | exact Drawn0.refl _ | apply Drawn0.step)⟩
                          · rw [if_neg c16] at H
                            have c16b0 : decide (90 < (bt t135 x9_1)) = false := decide_eq_false c16
                            clear c16
                            have H' := Aside0.mk H
                            clear H
                            have p6 : 0 ≤ (x9_1 : Int) := of_decide_eq_true (by first | (with_reducible assumption) | assumption)
                            have q6 : x9_1 < (t135.size : Int) := of_decide_eq_true (by first | (with_reducible assumption) | assumption)
                            have hx6 := bt_at t135 x9_1
                            replace p6 := eq_true p6
                            replace q6 := eq_true q6
                            go_wp2
                            go_roundg k1
                            case measure => have := HK1.out; omega
                            case rel => exact ⟨(wrap64 (x9_1 + 1)), (by first | rfl | (simp; done) | (simp [*]; done)), H', ⟨by have := HK1.out; omega⟩, by repeat (first | exact Drawn0.refl _ | apply Drawn0.step)⟩
                      · rw [if_neg c14] at H
                        have c14b0 : decide (122 < (bt t135 x9_1)) = false := decide_eq_false c14
                        clear c14
                        have H' := Aside0.mk H
                        clear H
                        have p6 : 0 ≤ (x9_1 : Int) := of_decide_eq_true (by first | (with_reducible assumption) | assumption)
                        have q6 : x9_1 < (t135.size : Int) := of_decide_eq_true (by first | (with_reducible assumption) | assumption)
                        have hx6 := bt_at t135 x9_1
                        replace p6 := eq_true p6
                        replace q6 := eq_true q6
                        go_wp2
                        go_roundg k1
                        case measure => have := HK1.out; omega
                        case rel => exact ⟨(wrap64 (x9_1 + 1)), (by first | rfl | (simp; done) | (simp [*]; done)), H', ⟨by have := HK1.out; omega⟩, by repeat (first | exact Drawn0.refl _ | apply Drawn0.step)⟩
                  · rw [if_neg c10] at H
                    have c10b0 : decide ((bt t135 x9_1) < 48) = false := decide_eq_false c10
                    clear c10
                    by_cases c17 : (bt t135 x9_1) > 57
                    · rw [if_pos c17] at H
                      have c17b0 : decide (57 < (bt t135 x9_1)) = true := decide_eq_true c17
                      clear c17
                      by_cases c18 : (bt t135 x9_1) < 97
                      · rw [if_pos c18] at H
                        have c18b0 : decide ((bt t135 x9_1) < 97) = true := decide_eq_true c18
                        clear c18
                        by_cases c19 : (bt t135 x9_1) < 65
                        · rw [if_pos c19] at H
                          have c19b0 : decide ((bt t135 x9_1) < 65) = true := decide_eq_true c19
                          clear c19
                          obtain rfl := Option.some.inj H
                          have p6 : 0 ≤ (x9_1 : Int) := of_decide_eq_true (by first | (with_reducible assumption) | assumption)
                          have q6 : x9_1 < (t135.size : Int) := of_decide_eq_true (by first | (with_reducible assumption) | assumption)
                          have hx6 := bt_at t135 x9_1
                          replace p6 := eq_true p6
                          replace q6 := eq_true q6
                          go_wp2
                          go_ret
                          exact ⟨by first | rfl | (simp; done) | (simp [*]; done), by repeat (first | exact Drawn0.refl _ | apply Drawn0.step)⟩
                        · rw [if_neg c19] at H
                          have c19b0 : decide ((bt t135 x9_1) < 65) = false := decide_eq_false c19
                          clear c19
                          by_cases c20 : (bt t135 x9_1) > 90
                          · rw [if_pos c20] at H
                            have c20b0 : decide (90 < (bt t135 x9_1)) = true := decide_eq_true c20
                            clear c20
                            obtain rfl := Option.some.inj H
                            have p6 : 0 ≤ (x9_1 : Int) := of_decide_eq_true (by first | (with_reducible assumption) | assumption)
                            have q6 : x9_1 < (t135.size : Int) := of_decide_eq_true (by first | (with_reducible assumption) | assumption)
                            have hx6 := bt_at t135 x9_1
                            replace p6 := eq_true p6
                            replace q6 := eq_true q6
                            go_wp2
                            go_ret
                            exact ⟨by first | rfl | (simp; done) | (simp [*]; done), by repeat (first | exact Drawn0.refl _ | apply Drawn0.step)⟩
                          · rw [if_neg c20] at H
                            have c20b0 : decide (90 < (bt t135 x9_1)) = false := decide_eq_false c20
                            clear c20
                            have H' := Aside0.mk H
                            clear H
                            have p6 : 0 ≤ (x9_1 : Int) := of_decide_eq_true (by first | (with_reducible assumption) | assumption)
                            have q6 : x9_1 < (t135.size : Int) := of_decide_eq_true (by first | (with_reducible assumption) | assumption)
                            have hx6 := bt_at t135 x9_1
                            replace p6 := eq_true p6
                            replace q6 := eq_true q6
                            go_wp2
                            go_roundg k1
                            case measure => have := HK1.out; omega
                            case rel => exact ⟨(wrap64 (x9_1 + 1)), (by first | rfl | (simp; done) | (simp [*]; done)), H', ⟨by have := HK1.out; omega⟩, by repeat (first | exact Drawn0.refl _ | apply Drawn0.step)⟩
                      · rw [if_neg c18] at H
                        have c18b0 : decide ((bt t135 x9_1) < 97) = false := decide_eq_false c18
                        clear c18
                        by_cases c21 : (bt t135 x9_1) > 122
                        · rw [if_pos c21] at H
                          have c21b0 : decide (122 < (bt t135 x9_1)) = true := decide_eq_true c21
                          clear c21
                          by_cases c22 : (bt t135 x9_1) < 65
                          · rw [if_pos c22] at H
                            have c22b0 : decide ((bt t135 x9_1) < 65) = true := decide_eq_true c22
                            clear c22
                            obtain rfl := Option.some.inj H
                            have p6 : 0 ≤ (x9_1 : Int) := of_decide_eq_true (by first | (with_reducible assumption) | assumption)
                            have q6 : x9_1 < (t135.size : Int) := of_decide_eq_true (by first | (with_reducible assumption) | assumption)
                            have hx6 := bt_at t135 x9_1
                            replace p6 := eq_true p6
                            replace q6 := eq_true q6
                            go_wp2
                            go_ret
                            exact ⟨by first | rfl | (simp; done) | (simp [*]; done), by repeat (first | exact Drawn0.refl _ | apply Drawn0.step)⟩
                          · rw [if_neg c22] at H
                            have c22b0 : decide ((bt t135 x9_1) < 65) = false := decide_eq_false c22
                            clear c22
                            by_cases c23 : (bt t135 x9_1) > 90
                            · rw [if_pos c23] at H
                              have c23b0 : decide (90 < (bt t135 x9_1)) = true := decide_eq_true c23
                              clear c23
                              obtain rfl := Option.some.inj H
                              have p6 : 0 ≤ (x9_1 : Int) := of_decide_eq_true (by first | (with_reducible assumption) | assumption)
                              have q6 : x9_1 < (t135.size : Int) := of_decide_eq_true (by first | (with_reducible assumption) | assumption)
                              have hx6 := bt_at t135 x9_1
                              replace p6 := eq_true p6
                              replace q6 := eq_true q6
                              go_wp2
                              go_ret
                              exact ⟨by first | rfl | (simp; done) | (simp [*]; done), by repeat (first | exact Drawn0.refl _ | apply Drawn0.step)⟩
                            · rw [if_neg c23] at H
                              have c23b0 : decide (90 < (bt t135 x9_1)) = false := decide_eq_false c23
                              clear c23
                              have H' := Aside0.mk H
                              clear H
                              have p6 : 0 ≤ (x9_1 : Int) := of_decide_eq_true (by first | (with_reducible assumption) | assumption)
                              have q6 : x9_1 < (t135.size : Int) := of_decide_eq_true (by first | (with_reducible assumption) | assumption)
                              have hx6 := bt_at t135 x9_1
                              replace p6 := eq_true p6
                              replace q6 := eq_true q6
                              go_wp2
                              go_roundg k1
                              case measure => have := HK1.out; omega
                              case rel => exact ⟨(wrap64 (x9_1 + 1)), (by first | rfl | (simp; done) | (simp [*]; done)), H', ⟨by have := HK1.out; omega⟩, by repeat (first | exact Drawn0.refl _ | apply Drawn0.step)⟩
                        · rw [if_neg c21] at H
                          have c21b0 : decide (122 < (bt t135 x9_1)) = false := decide_eq_false c21
                          clear c21
                          have H' := Aside0.mk H
                          clear H
                          have p6 : 0 ≤ (x9_1 : Int) := of_decide_eq_true (by first | (with_reducible assumption) | assumption)
                          have q6 : x9_1 < (t135.size : Int) := of_decide_eq_true (by first | (with_reducible assumption) | assumption)
                          have hx6 := bt_at t135 x9_1
                          replace p6 := eq_true p6
                          replace q6 := eq_true q6
                          go_wp2
                          go_roundg k1
                          case measure => have := HK1.out; omega
                          case rel => exact ⟨(wrap64 (x9_1 + 1)), (by first | rfl | (simp; done) | (simp [*]; done)), H', ⟨by have := HK1.out; omega⟩, by repeat (first | exact Drawn0.refl _ | apply Drawn0.step)⟩
                    · rw [if_neg c17] at H
                      have c17b0 : decide (57 < (bt t135 x9_1)) = false := decide_eq_false c17
                      clear c17
                      have H' := Aside0.mk H
                      clear H
                      have p6 : 0 ≤ (x9_1 : Int) := of_decide_eq_true (by first | (with_reducible assumption) | assumption)
                      have q6 : x9_1 < (t135.size : Int) := of_decide_eq_true (by first | (with_reducible assumption) | assumption)
                      have hx6 := bt_at t135 x9_1
                      replace p6 := eq_true p6
                      replace q6 := eq_true q6
                      go_wp2
                      go_roundg k1
                      case measure => have := HK1.out; omega
                      case rel => exact ⟨(wrap64 (x9_1 + 1)), (by first | rfl | (simp; done) | (simp [*]; done)), H', ⟨by have := HK1.out; omega⟩, by repeat (first | exact Drawn0.refl _ | apply Drawn0.step)⟩
          · rw [if_neg c5] at H
            exact absurd H (by simp)
        · rw [if_neg c4] at H
          exact absurd H (by simp)
      · rw [if_neg c3] at H
        have c3b0 : decide (x9_1 < (t135.size : Int)) = false := decide_eq_false c3
        clear c3
        obtain rfl := Option.some.inj H
        go_wp2
        go_ret
        exact ⟨by first | rfl | (simp; done) | (simp [*]; done) | (simp; cases t135.toList <;> rfl), by repeat (first | exact Drawn0.refl _ | apply Drawn0.step)⟩

end Go.Proofs.Ytnbhledkdkchlaa.PAll
