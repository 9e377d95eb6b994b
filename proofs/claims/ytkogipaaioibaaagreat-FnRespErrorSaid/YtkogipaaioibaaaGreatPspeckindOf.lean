/- The Lean function of spec_kindOf and its contract: the Go function comes to exactly what the Lean function answers (laid by the kit's print program). -/
import Derived.Test.YtkogipaaioibaaaGreatPAllx0
namespace Go.Proofs.YtkogipaaioibaaaGreat.PAll
open Go.RowKit Go.Proofs.YtkogipaaioibaaaGreatW.PrintWords Go.Proofs.YtkogipaaioibaaaGreatW.PrintLast Go.Proofs.YtkogipaaioibaaaGreatW.PrintMore
attribute [local go_sem] max2_int min2_int max_two min_two max_three min_three max_four min_four   -- for this text's walks alone
set_option linter.unusedVariables false
set_option linter.unusedSimpArgs false


/-! ### spec_kindOf: function 12 -/
def spec_kindOf.j0 : Nat → ByteArray → Bool → Option (ByteArray)
  | 0, _, _ => none
  | k + 1, x3, x14 => if x14 = true then (some (⟨#[65, 117, 116, 104]⟩ : ByteArray)) else (if x3.toList = ([78, 79, 80, 69, 82, 77] : List UInt8) then (some (⟨#[80, 101, 114, 109, 105, 115, 115, 105, 111, 110]⟩ : ByteArray)) else (if x3.toList = ([69, 88, 69, 67, 65, 66, 79, 82, 84] : List UInt8) then (some (⟨#[69, 120, 101, 99, 65, 98, 111, 114, 116]⟩ : ByteArray)) else (if x3.toList = ([79, 79, 77] : List UInt8) then (some (⟨#[79, 79, 77]⟩ : ByteArray)) else (if x3.toList = ([78, 79, 82, 69, 80, 76, 73, 67, 65, 83] : List UInt8) then (some (⟨#[78, 111, 82, 101, 112, 108, 105, 99, 97, 115]⟩ : ByteArray)) else (if x3.toList = ([77, 79, 86, 69, 68] : List UInt8) then (some (⟨#[77, 111, 118, 101, 100]⟩ : ByteArray)) else (if x3.toList = ([65, 83, 75] : List UInt8) then (some (⟨#[65, 115, 107]⟩ : ByteArray)) else (some (⟨#[]⟩ : ByteArray))))))))
def spec_kindOf.f (k : Nat) (a0 : ByteArray) : Option (ByteArray) := if a0.toList = ([76, 79, 65, 68, 73, 78, 71] : List UInt8) then (some (⟨#[76, 111, 97, 100, 105, 110, 103]⟩ : ByteArray)) else (if a0.toList = ([82, 69, 65, 68, 79, 78, 76, 89] : List UInt8) then (some (⟨#[82, 101, 97, 100, 79, 110, 108, 121]⟩ : ByteArray)) else (if a0.toList = ([67, 76, 85, 83, 84, 69, 82, 68, 79, 87, 78] : List UInt8) then (some (⟨#[67, 108, 117, 115, 116, 101, 114, 68, 111, 119, 110]⟩ : ByteArray)) else (if a0.toList = ([84, 82, 89, 65, 71, 65, 73, 78] : List UInt8) then (some (⟨#[84, 114, 121, 65, 103, 97, 105, 110]⟩ : ByteArray)) else (if a0.toList = ([77, 65, 83, 84, 69, 82, 68, 79, 87, 78] : List UInt8) then (some (⟨#[77, 97, 115, 116, 101, 114, 68, 111, 119, 110]⟩ : ByteArray)) else (if a0.toList = ([78, 79, 65, 85, 84, 72] : List UInt8) then (spec_kindOf.j0 k a0 (a0.toList == ([78, 79, 65, 85, 84, 72] : List UInt8))) else (spec_kindOf.j0 k a0 (a0.toList == ([87, 82, 79, 78, 71, 80, 65, 83, 83] : List UInt8))))))))
theorem spec_kindOf.mono_l : ∀ k, (∀ y0 y1, LeO (spec_kindOf.j0 k y0 y1) (spec_kindOf.j0 (k + 1) y0 y1))
  | 0 => fun _ _ r h => by simp [spec_kindOf.j0] at h
  | k + 1 => by
    have ih0 := spec_kindOf.mono_l k
    · intro y0 y1
      unfold spec_kindOf.j0
      repeat' first
      | (with_reducible exact ih0 _ _)
      | (with_reducible exact LeO.refl _)
      | (with_reducible exact LeO.none _)
      | (with_reducible refine LeO.ite ?_ ?_)
      | (with_reducible refine LeO.bind ?_ (fun _ => ?_))
      | exact ih0 _ _
      | exact LeO.none _
      | refine LeO.ite ?_ ?_
      | refine LeO.bind ?_ (fun _ => ?_)
theorem spec_kindOf.mono : ∀ a0 k, LeO (spec_kindOf.f k a0) (spec_kindOf.f (k + 1) a0) := by
  intro a0 k
  have ih0 := spec_kindOf.mono_l k
  unfold spec_kindOf.f
  repeat' first
      | (with_reducible exact ih0 _ _)
      | (with_reducible exact LeO.refl _)
      | (with_reducible exact LeO.none _)
      | (with_reducible refine LeO.ite ?_ ?_)
      | (with_reducible refine LeO.bind ?_ (fun _ => ?_))
      | exact ih0 _ _
      | exact LeO.none _
      | refine LeO.ite ?_ ?_
      | refine LeO.bind ?_ (fun _ => ?_)
set_option maxHeartbeats 8000000 in
set_option maxRecDepth 100000 in
theorem spec_kindOf.calls (k : Nat) (a0 : ByteArray) (r : ByteArray) (w : World) (h : spec_kindOf.f k a0 = some r) :
    Calls Tryz.prog 12 #[.string a0] w fun e w' => e = .returned (.string r) ∧ Drawn0 w w' := by
  have H : (if a0.toList = ([76, 79, 65, 68, 73, 78, 71] : List UInt8) then (some (⟨#[76, 111, 97, 100, 105, 110, 103]⟩ : ByteArray)) else (if a0.toList = ([82, 69, 65, 68, 79, 78, 76, 89] : List UInt8) then (some (⟨#[82, 101, 97, 100, 79, 110, 108, 121]⟩ : ByteArray)) else (if a0.toList = ([67, 76, 85, 83, 84, 69, 82, 68, 79, 87, 78] : List UInt8) then (some (⟨#[67, 108, 117, 115, 116, 101, 114, 68, 111, 119, 110]⟩ : ByteArray)) else (if a0.toList = ([84, 82, 89, 65, 71, 65, 73, 78] : List UInt8) then (some (⟨#[84, 114, 121, 65, 103, 97, 105, 110]⟩ : ByteArray)) else (if a0.toList = ([77, 65, 83, 84, 69, 82, 68, 79, 87, 78] : List UInt8) then (some (⟨#[77, 97, 115, 116, 101, 114, 68, 111, 119, 110]⟩ : ByteArray)) else (if a0.toList = ([78, 79, 65, 85, 84, 72] : List UInt8) then (spec_kindOf.j0 k a0 (a0.toList == ([78, 79, 65, 85, 84, 72] : List UInt8))) else (spec_kindOf.j0 k a0 (a0.toList == ([87, 82, 79, 78, 71, 80, 65, 83, 83] : List UInt8))))))))) = some r := h
  clear h
  by_cases c2 : a0.toList = ([76, 79, 65, 68, 73, 78, 71] : List UInt8)
  · rw [if_pos c2] at H
    have c2b0 : (a0.toList == ([76, 79, 65, 68, 73, 78, 71] : List UInt8)) = true := beq_iff_eq.mpr c2
    have c2b1 : (a0.toList != ([76, 79, 65, 68, 73, 78, 71] : List UInt8)) = false := bne_eq_false_iff_eq.mpr c2
    clear c2
    obtain rfl := Option.some.inj H
    go_enter Tryz.func12, Tryz.ntmps12
    go_wp2
    go_ret
    exact ⟨by first | rfl | (simp; done) | (simp [*]; done), by repeat (first | exact Drawn0.refl _ | apply Drawn0.step)⟩
  · rw [if_neg c2] at H
    have c2b0 : (a0.toList == ([76, 79, 65, 68, 73, 78, 71] : List UInt8)) = false := beq_eq_false_iff_ne.mpr c2
    have c2b1 : (a0.toList != ([76, 79, 65, 68, 73, 78, 71] : List UInt8)) = true := bne_iff_ne.mpr c2
    by_cases c3 : a0.toList = ([82, 69, 65, 68, 79, 78, 76, 89] : List UInt8)
    · rw [if_pos c3] at H
      have c3b0 : (a0.toList == ([82, 69, 65, 68, 79, 78, 76, 89] : List UInt8)) = true := beq_iff_eq.mpr c3
      have c3b1 : (a0.toList != ([82, 69, 65, 68, 79, 78, 76, 89] : List UInt8)) = false := bne_eq_false_iff_eq.mpr c3
      clear c3
      obtain rfl := Option.some.inj H
      go_enter Tryz.func12, Tryz.ntmps12
      go_wp2
      go_ret
      exact ⟨by first | rfl | (simp; done) | (simp [*]; done), by repeat (first | exact Drawn0.refl _ | apply Drawn0.step)⟩
    · rw [if_neg c3] at H
      have c3b0 : (a0.toList == ([82, 69, 65, 68, 79, 78, 76, 89] : List UInt8)) = false := beq_eq_false_iff_ne.mpr c3
      have c3b1 : (a0.toList != ([82, 69, 65, 68, 79, 78, 76, 89] : List UInt8)) = true := bne_iff_ne.mpr c3
      by_cases c4 : a0.toList = ([67, 76, 85, 83, 84, 69, 82, 68, 79, 87, 78] : List UInt8)
      · rw [if_pos c4] at H
        have c4b0 : (a0.toList == ([67, 76, 85, 83, 84, 69, 82, 68, 79, 87, 78] : List UInt8)) = true := beq_iff_eq.mpr c4
        have c4b1 : (a0.toList != ([67, 76, 85, 83, 84, 69, 82, 68, 79, 87, 78] : List UInt8)) = false := bne_eq_false_iff_eq.mpr c4
        clear c4
        obtain rfl := Option.some.inj H
        go_enter Tryz.func12, Tryz.ntmps12
        go_wp2
        go_ret
        exact ⟨by first | rfl | (simp; done) | (simp [*]; done), by repeat (first | exact Drawn0.refl _ | apply Drawn0.step)⟩
      · rw [if_neg c4] at H
        have c4b0 : (a0.toList == ([67, 76, 85, 83, 84, 69, 82, 68, 79, 87, 78] : List UInt8)) = false := beq_eq_false_iff_ne.mpr c4
        have c4b1 : (a0.toList != ([67, 76, 85, 83, 84, 69, 82, 68, 79, 87, 78] : List UInt8)) = true := bne_iff_ne.mpr c4
        by_cases c5 : a0.toList = ([84, 82, 89, 65, 71, 65, 73, 78] : List UInt8)
        · rw [if_pos c5] at H
          have c5b0 : (a0.toList == ([84, 82, 89, 65, 71, 65, 73, 78] : List UInt8)) = true := beq_iff_eq.mpr c5
          have c5b1 : (a0.toList != ([84, 82, 89, 65, 71, 65, 73, 78] : List UInt8)) = false := bne_eq_false_iff_eq.mpr c5
          clear c5
          obtain rfl := Option.some.inj H
          go_enter Tryz.func12, Tryz.ntmps12
          go_wp2
          go_ret
          exact ⟨by first | rfl | (simp; done) | (simp [*]; done), by repeat (first | exact Drawn0.refl _ | apply Drawn0.step)⟩
        · rw [if_neg c5] at H
          have c5b0 : (a0.toList == ([84, 82, 89, 65, 71, 65, 73, 78] : List UInt8)) = false := beq_eq_false_iff_ne.mpr c5
          have c5b1 : (a0.toList != ([84, 82, 89, 65, 71, 65, 73, 78] : List UInt8)) = true := bne_iff_ne.mpr c5
          by_cases c6 : a0.toList = ([77, 65, 83, 84, 69, 82, 68, 79, 87, 78] : List UInt8)
          · rw [if_pos c6] at H
            have c6b0 : (a0.toList == ([77, 65, 83, 84, 69, 82, 68, 79, 87, 78] : List UInt8)) = true := beq_iff_eq.mpr c6
            have c6b1 : (a0.toList != ([77, 65, 83, 84, 69, 82, 68, 79, 87, 78] : List UInt8)) = false := bne_eq_false_iff_eq.mpr c6
            clear c6
            obtain rfl := Option.some.inj H
            go_enter Tryz.func12, Tryz.ntmps12
            go_wp2
            go_ret
            exact ⟨by first | rfl | (simp; done) | (simp [*]; done), by repeat (first | exact Drawn0.refl _ | apply Drawn0.step)⟩
          · rw [if_neg c6] at H
            have c6b0 : (a0.toList == ([77, 65, 83, 84, 69, 82, 68, 79, 87, 78] : List UInt8)) = false := beq_eq_false_iff_ne.mpr c6
            have c6b1 : (a0.toList != ([77, 65, 83, 84, 69, 82, 68, 79, 87, 78] : List UInt8)) = true := bne_iff_ne.mpr c6
            have HC7 := Aside0.mk H
            clear H
            go_enter Tryz.func12, Tryz.ntmps12
            go_upto_if 14 with (fail)
            go_cut [14] (fun v14 wc => ∃ (kq : Nat) (x14_6 : Bool), v14 = .bool x14_6 ∧ Aside0 (spec_kindOf.j0 kq a0 x14_6 = some r) ∧ Aside0 (kq ≤ k) ∧ Drawn0 w wc)
            case first =>
              have H := HC7.out
              clear HC7
              by_cases c8 : a0.toList = ([78, 79, 65, 85, 84, 72] : List UInt8)
              · rw [if_pos c8] at H
                have c8b0 : (a0.toList == ([78, 79, 65, 85, 84, 72] : List UInt8)) = true := beq_iff_eq.mpr c8
                have c8b1 : (a0.toList != ([78, 79, 65, 85, 84, 72] : List UInt8)) = false := bne_eq_false_iff_eq.mpr c8
                clear c8
                (first | rw [c8b0] | (simp only [i64_w, i32_w]; rw [c8b0]) | skip)
                have H' := Aside0.mk H
                clear H
                go_wp2
                go_meet
                case rel => exact ⟨_, ((a0.toList == ([78, 79, 65, 85, 84, 72] : List UInt8))), (by first | rfl | (simp; done) | (simp [*]; done)), H', ⟨by first | omega | exact Nat.le_refl _⟩, by repeat (first | exact Drawn0.refl _ | apply Drawn0.step)⟩
              · rw [if_neg c8] at H
                have c8b0 : (a0.toList == ([78, 79, 65, 85, 84, 72] : List UInt8)) = false := beq_eq_false_iff_ne.mpr c8
                have c8b1 : (a0.toList != ([78, 79, 65, 85, 84, 72] : List UInt8)) = true := bne_iff_ne.mpr c8
                (first | rw [c8b0] | (simp only [i64_w, i32_w]; rw [c8b0]) | skip)
                have H' := Aside0.mk H
                clear H
                go_wp2
                go_meet
                case rel => exact ⟨_, ((a0.toList == ([87, 82, 79, 78, 71, 80, 65, 83, 83] : List UInt8))), (by first | rfl | (simp; done) | (simp [*]; done)), H', ⟨by first | omega | exact Nat.le_refl _⟩, by repeat (first | exact Drawn0.refl _ | apply Drawn0.step)⟩
            case rest =>
              clear HC7
              try clear c1
              try clear c2
              try clear c2b0
              try clear c2b1
              try clear p2
              try clear c3
              try clear c3b0
              try clear c3b1
              try clear c4
              try clear c4b0
              try clear c4b1
              try clear c5
              try clear c5b0
              try clear c5b1
              try clear c6
              try clear c6b0
              try clear c6b1
              try clear c8
              try clear c8b0
              try clear c8b1
              obtain ⟨kq, x14_6, rfl, HA, HJ6, ⟨mc6, rfl⟩⟩ := hcut
              cases kq with
              | zero => exact absurd HA.out (by simp [spec_kindOf.j0])
              | succ kj6 =>
                have H := HA.out
                clear HA
                simp only [spec_kindOf.j0] at H
                by_cases c9 : x14_6 = true
                · subst c9
                  have H1 : (some (⟨#[65, 117, 116, 104]⟩ : ByteArray)) = some r := by rw [if_pos rfl] at H; exact H
                  clear H
                  have H := H1
                  clear H1
                  obtain rfl := Option.some.inj H
                  go_wp2
                  go_ret
                  exact ⟨by first | rfl | (simp; done) | (simp [*]; done), by repeat (first | exact Drawn0.refl _ | apply Drawn0.step)⟩
                · replace c9 := Bool.eq_false_iff.mpr c9
                  subst c9
                  have H1 : (if a0.toList = ([78, 79, 80, 69, 82, 77] : List UInt8) then (some (⟨#[80, 101, 114, 109, 105, 115, 115, 105, 111, 110]⟩ : ByteArray)) else (if a0.toList = ([69, 88, 69, 67, 65, 66, 79, 82, 84] : List UInt8) then (some (⟨#[69, 120, 101, 99, 65, 98, 111, 114, 116]⟩ : ByteArray)) else (if a0.toList = ([79, 79, 77] : List UInt8) then (some (⟨#[79, 79, 77]⟩ : ByteArray)) else (if a0.toList = ([78, 79, 82, 69, 80, 76, 73, 67, 65, 83] : List UInt8) then (some (⟨#[78, 111, 82, 101, 112, 108, 105, 99, 97, 115]⟩ : ByteArray)) else (if a0.toList = ([77, 79, 86, 69, 68] : List UInt8) then (some (⟨#[77, 111, 118, 101, 100]⟩ : ByteArray)) else (if a0.toList = ([65, 83, 75] : List UInt8) then (some (⟨#[65, 115, 107]⟩ : ByteArray)) else (some (⟨#[]⟩ : ByteArray)))))))) = some r := by rw [if_neg (show ¬ (false = true) by decide)] at H; exact H
                  clear H
                  have H := H1
                  clear H1
                  by_cases c10 : a0.toList = ([78, 79, 80, 69, 82, 77] : List UInt8)
                  · rw [if_pos c10] at H
                    have c10b0 : (a0.toList == ([78, 79, 80, 69, 82, 77] : List UInt8)) = true := beq_iff_eq.mpr c10
                    have c10b1 : (a0.toList != ([78, 79, 80, 69, 82, 77] : List UInt8)) = false := bne_eq_false_iff_eq.mpr c10
                    clear c10
                    obtain rfl := Option.some.inj H
                    go_wp2
                    go_ret
                    exact ⟨by first | rfl | (simp; done) | (simp [*]; done), by repeat (first | exact Drawn0.refl _ | apply Drawn0.step)⟩
                  · rw [if_neg c10] at H
                    have c10b0 : (a0.toList == ([78, 79, 80, 69, 82, 77] : List UInt8)) = false := beq_eq_false_iff_ne.mpr c10
                    have c10b1 : (a0.toList != ([78, 79, 80, 69, 82, 77] : List UInt8)) = true := bne_iff_ne.mpr c10
                    by_cases c11 : a0.toList = ([69, 88, 69, 67, 65, 66, 79, 82, 84] : List UInt8)
                    · rw [if_pos c11] at H
                      have c11b0 : (a0.toList == ([69, 88, 69, 67, 65, 66, 79, 82, 84] : List UInt8)) = true := beq_iff_eq.mpr c11
                      have c11b1 : (a0.toList != ([69, 88, 69, 67, 65, 66, 79, 82, 84] : List UInt8)) = false := bne_eq_false_iff_eq.mpr c11
                      clear c11
                      obtain rfl := Option.some.inj H
                      go_wp2
                      go_ret
                      exact ⟨by first | rfl | (simp; done) | (simp [*]; done), by repeat (first | exact Drawn0.refl _ | apply Drawn0.step)⟩
                    · rw [if_neg c11] at H
                      have c11b0 : (a0.toList == ([69, 88, 69, 67, 65, 66, 79, 82, 84] : List UInt8)) = false := beq_eq_false_iff_ne.mpr c11
                      have c11b1 : (a0.toList != ([69, 88, 69, 67, 65, 66, 79, 82, 84] : List UInt8)) = true := bne_iff_ne.mpr c11
                      by_cases c12 : a0.toList = ([79, 79, 77] : List UInt8)
                      · rw [if_pos c12] at H
                        have c12b0 : (a0.toList == ([79, 79, 77] : List UInt8)) = true := beq_iff_eq.mpr c12
                        have c12b1 : (a0.toList != ([79, 79, 77] : List UInt8)) = false := bne_eq_false_iff_eq.mpr c12
                        clear c12
                        obtain rfl := Option.some.inj H
                        go_wp2
                        go_ret
                        exact ⟨by first | rfl | (simp; done) | (simp [*]; done), by repeat (first | exact Drawn0.refl _ | apply Drawn0.step)⟩
                      · rw [if_neg c12] at H
                        have c12b0 : (a0.toList == ([79, 79, 77] : List UInt8)) = false := beq_eq_false_iff_ne.mpr c12
                        have c12b1 : (a0.toList != ([79, 79, 77] : List UInt8)) = true := bne_iff_ne.mpr c12
                        by_cases c13 : a0.toList = ([78, 79, 82, 69, 80, 76, 73, 67, 65, 83] : List UInt8)
                        · rw [if_pos c13] at H
                          have c13b0 : (a0.toList == ([78, 79, 82, 69, 80, 76, 73, 67, 65, 83] : List UInt8)) = true := beq_iff_eq.mpr c13
                          have c13b1 : (a0.toList != ([78, 79, 82, 69, 80, 76, 73, 67, 65, 83] : List UInt8)) = false := bne_eq_false_iff_eq.mpr c13
                          clear c13
                          obtain rfl := Option.some.inj H
                          go_wp2
                          go_ret
                          exact ⟨by first | rfl | (simp; done) | (simp [*]; done), by repeat (first | exact Drawn0.refl _ | apply Drawn0.step)⟩
                        · rw [if_neg c13] at H
                          have c13b0 : (a0.toList == ([78, 79, 82, 69, 80, 76, 73, 67, 65, 83] : List UInt8)) = false := beq_eq_false_iff_ne.mpr c13
                          have c13b1 : (a0.toList != ([78, 79, 82, 69, 80, 76, 73, 67, 65, 83] : List UInt8)) = true := bne_iff_ne.mpr c13
                          by_cases c14 : a0.toList = ([77, 79, 86, 69, 68] : List UInt8)
                          · rw [if_pos c14] at H
                            have c14b0 : (a0.toList == ([77, 79, 86, 69, 68] : List UInt8)) = true := beq_iff_eq.mpr c14
                            have c14b1 : (a0.toList != ([77, 79, 86, 69, 68] : List UInt8)) = false := bne_eq_false_iff_eq.mpr c14
                            clear c14
                            obtain rfl := Option.some.inj H
                            go_wp2
                            go_ret
                            exact ⟨by first | rfl | (simp; done) | (simp [*]; done), by repeat (first | exact Drawn0.refl _ | apply Drawn0.step)⟩
                          · rw [if_neg c14] at H
                            have c14b0 : (a0.toList == ([77, 79, 86, 69, 68] : List UInt8)) = false := beq_eq_false_iff_ne.mpr c14
                            have c14b1 : (a0.toList != ([77, 79, 86, 69, 68] : List UInt8)) = true := bne_iff_ne.mpr c14
                            by_cases c15 : a0.toList = ([65, 83, 75] : List UInt8)
                            · rw [if_pos c15] at H
                              have c15b0 : (a0.toList == ([65, 83, 75] : List UInt8)) = true := beq_iff_eq.mpr c15
                              have c15b1 : (a0.toList != ([65, 83, 75] : List UInt8)) = false := bne_eq_false_iff_eq.mpr c15
                              clear c15
                              obtain rfl := Option.some.inj H
                              go_wp2
                              go_ret
                              exact ⟨by first | rfl | (simp; done) | (simp [*]; done), by repeat (first | exact Drawn0.refl _ | apply Drawn0.step)⟩
                            · rw [if_neg c15] at H
                              have c15b0 : (a0.toList == ([65, 83, 75] : List UInt8)) = false := beq_eq_false_iff_ne.mpr c15
                              have c15b1 : (a0.toList != ([65, 83, 75] : List UInt8)) = true := bne_iff_ne.mpr c15
                              obtain rfl := Option.some.inj H
                              go_wp2
                              go_ret
                              exact ⟨by first | rfl | (simp; done) | (simp [*]; done), by repeat (first | exact Drawn0.refl _ | apply Drawn0.step)⟩

end Go.Proofs.YtkogipaaioibaaaGreat.PAll
