/- The Lean function of spec_tag and its contract: the Go function comes to exactly what the Lean function answers (laid by the kit's print program). -/
import Derived.Test.YtnbhledkdkchlaaPAllx0
namespace Go.Proofs.Ytnbhledkdkchlaa.PAll
open Go.RowKit Go.Proofs.YtnbhledkdkchlaaW.PrintWords Go.Proofs.YtnbhledkdkchlaaW.PrintLast Go.Proofs.YtnbhledkdkchlaaW.PrintMore
attribute [local go_sem] max2_int min2_int max_two min_two max_three min_three max_four min_four   -- for this text's walks alone
set_option linter.unusedVariables false
set_option linter.unusedSimpArgs false
-- NOT PRINTED: function 90 (bytealg_IndexByteString)

-- NOT PRINTED: function 73 (stringslite_IndexByte)

-- NOT PRINTED: function 57 (strings_IndexByte)

-- NOT PRINTED: function 37 (hashtag_Key)

-- NOT PRINTED: function 14 (impl_Key)

/-! ### spec_tag: function 38 -/
mutual
def spec_tag.l0 : Nat → ByteArray → Int → Int → Option (ByteArray × Bool)
  | 0, _, _, _ => none
  | k + 1, x0, x7, x8 => if x8 < x7 then (if 0 ≤ x8 then (if x8 < (x0.size : Int) then (if (bt x0 x8) = 123 then (spec_tag.l1 k x0 x8 (wrap64 (x8 + 1))) else (spec_tag.l0 k x0 x7 (wrap64 (x8 + 1)))) else (none)) else (none)) else (some ((⟨#[]⟩ : ByteArray), false))
def spec_tag.l1 : Nat → ByteArray → Int → Int → Option (ByteArray × Bool)
  | 0, _, _, _ => none
  | k + 1, x0, x4, x5 => if x5 < (x0.size : Int) then (if 0 ≤ x5 then (if (bt x0 x5) = 125 then (if 0 ≤ (wrap64 (x4 + 1)) then (if (wrap64 (x4 + 1)) ≤ x5 then (if x5 ≤ (x0.size : Int) then (some (x0.extract ((wrap64 (x4 + 1)) : Int).toNat (x5 : Int).toNat, decide (x5 > (wrap64 (x4 + 1))))) else (none)) else (none)) else (none)) else (spec_tag.l1 k x0 x4 (wrap64 (x5 + 1)))) else (none)) else (some ((⟨#[]⟩ : ByteArray), false))
end
def spec_tag.f (k : Nat) (a0 : ByteArray) : Option (ByteArray × Bool) := spec_tag.l0 k a0 (a0.size : Int) 0
theorem spec_tag.mono_l : ∀ k, (∀ y0 y1 y2, LeO (spec_tag.l0 k y0 y1 y2) (spec_tag.l0 (k + 1) y0 y1 y2)) ∧ (∀ y0 y1 y2, LeO (spec_tag.l1 k y0 y1 y2) (spec_tag.l1 (k + 1) y0 y1 y2))
  | 0 => ⟨fun _ _ _ r h => by simp [spec_tag.l0] at h, fun _ _ _ r h => by simp [spec_tag.l1] at h⟩
  | k + 1 => by
    obtain ⟨ih0, ih1⟩ := spec_tag.mono_l k
    refine ⟨?_, ?_⟩
    · intro y0 y1 y2
      unfold spec_tag.l0
      repeat' first
      | (with_reducible exact ih0 _ _ _)
      | (with_reducible exact ih1 _ _ _)
      | (with_reducible exact LeO.refl _)
      | (with_reducible exact LeO.none _)
      | (with_reducible refine LeO.ite ?_ ?_)
      | (with_reducible refine LeO.bind ?_ (fun _ => ?_))
      | exact ih0 _ _ _
      | exact ih1 _ _ _
      | exact LeO.none _
      | refine LeO.ite ?_ ?_
      | refine LeO.bind ?_ (fun _ => ?_)
    · intro y0 y1 y2
      unfold spec_tag.l1
      repeat' first
      | (with_reducible exact ih0 _ _ _)
      | (with_reducible exact ih1 _ _ _)
      | (with_reducible exact LeO.refl _)
      | (with_reducible exact LeO.none _)
      | (with_reducible refine LeO.ite ?_ ?_)
      | (with_reducible refine LeO.bind ?_ (fun _ => ?_))
      | exact ih0 _ _ _
      | exact ih1 _ _ _
      | exact LeO.none _
      | refine LeO.ite ?_ ?_
      | refine LeO.bind ?_ (fun _ => ?_)
theorem spec_tag.mono : ∀ a0 k, LeO (spec_tag.f k a0) (spec_tag.f (k + 1) a0) := by
  intro a0 k
  obtain ⟨ih0, ih1⟩ := spec_tag.mono_l k
  unfold spec_tag.f
  repeat' first
      | (with_reducible exact ih0 _ _ _)
      | (with_reducible exact ih1 _ _ _)
      | (with_reducible exact LeO.refl _)
      | (with_reducible exact LeO.none _)
      | (with_reducible refine LeO.ite ?_ ?_)
      | (with_reducible refine LeO.bind ?_ (fun _ => ?_))
      | exact ih0 _ _ _
      | exact ih1 _ _ _
      | exact LeO.none _
      | refine LeO.ite ?_ ?_
      | refine LeO.bind ?_ (fun _ => ?_)
set_option maxHeartbeats 8000000 in
set_option maxRecDepth 100000 in
theorem spec_tag.calls (k : Nat) (a0 : ByteArray) (r1 : ByteArray) (r2 : Bool) (w : World) (h : spec_tag.f k a0 = some (r1, r2)) :
    Calls Try.prog 38 #[.string a0] w fun e w' => e = .returned (.tuple #[.string r1, .bool r2]) ∧ Drawn0 w w' := by
  have H : (spec_tag.l0 k a0 (a0.size : Int) 0) = some (r1, r2) := h
  clear h
  have H' := Aside0.mk H
  clear H
  go_enter Try.func38, Try.ntmps38
  go_wp2
  go_loopg [8] k (fun kq v8 w' => ∃ (x8_1 : Int), v8 = .int .i64 x8_1 ∧ Aside0 (spec_tag.l0 kq a0 (a0.size : Int) x8_1 = some (r1, r2)) ∧ Aside0 (kq ≤ k) ∧ Drawn0 w w')
  case atStart => exact ⟨(0), (by first | rfl | (simp; done) | (simp [*]; done)), H', ⟨Nat.le_refl _⟩, by repeat (first | exact Drawn0.refl _ | apply Drawn0.step)⟩
  case round =>
    clear H'
    obtain ⟨x8_1, rfl, HA, HK1, ⟨m1, rfl⟩⟩ := hrel
    cases gk with
    | zero => exact absurd HA.out (by simp [spec_tag.l0])
    | succ k1 =>
      have H := HA.out
      clear HA
      simp only [spec_tag.l0] at H
      by_cases c2 : x8_1 < (a0.size : Int)
      · rw [if_pos c2] at H
        have c2b0 : decide (x8_1 < (a0.size : Int)) = true := decide_eq_true c2
        clear c2
        by_cases c3 : 0 ≤ x8_1
        · rw [if_pos c3] at H
          have c3b0 : decide (0 ≤ x8_1) = true := decide_eq_true c3
          clear c3
          by_cases c4 : x8_1 < (a0.size : Int)
          · rw [if_pos c4] at H
            have c4b0 : decide (x8_1 < (a0.size : Int)) = true := decide_eq_true c4
            clear c4
            by_cases c6 : (bt a0 x8_1) = 123
            · rw [if_pos c6] at H
              have c6b0 : ((bt a0 x8_1) == 123) = true := beq_iff_eq.mpr c6
              have c6b1 : ((bt a0 x8_1) != 123) = false := bne_eq_false_iff_eq.mpr c6
              clear c6
              have H' := Aside0.mk H
              clear H
              have p5 : 0 ≤ (x8_1 : Int) := of_decide_eq_true (by first | (with_reducible assumption) | assumption)
              have q5 : x8_1 < (a0.size : Int) := of_decide_eq_true (by first | (with_reducible assumption) | assumption)
              have hx5 := bt_at a0 x8_1
              replace p5 := eq_true p5
              replace q5 := eq_true q5
              go_wp2
              go_loopg [5] k1 (fun kq v5 w' => ∃ (x5_2 : Int), v5 = .int .i64 x5_2 ∧ Aside0 (spec_tag.l1 kq a0 x8_1 x5_2 = some (r1, r2)) ∧ Aside0 (kq ≤ k1) ∧ Drawn0 w w')
              case atStart => exact ⟨(wrap64 (x8_1 + 1)), (by first | rfl | (simp; done) | (simp [*]; done)), H', ⟨Nat.le_refl _⟩, by repeat (first | exact Drawn0.refl _ | apply Drawn0.step)⟩
              case round =>
                clear H'
                try clear c2
                try clear c2b0
                try clear p2
                try clear c3
                try clear c3b0
                try clear c4
                try clear c4b0
                try clear p5
                try clear q5
                try clear hx5
                try clear c6
                try clear c6b0
                try clear c6b1
                try clear p6
                try clear p5
                try clear q5
                obtain ⟨x5_2, rfl, HA, HK2, ⟨m2, rfl⟩⟩ := hrel
                cases gk with
                | zero => exact absurd HA.out (by simp [spec_tag.l1])
                | succ k2 =>
                  have H := HA.out
                  clear HA
                  simp only [spec_tag.l1] at H
                  by_cases c7 : x5_2 < (a0.size : Int)
                  · rw [if_pos c7] at H
                    have c7b0 : decide (x5_2 < (a0.size : Int)) = true := decide_eq_true c7
                    clear c7
                    by_cases c8 : 0 ≤ x5_2
                    · rw [if_pos c8] at H
                      have c8b0 : decide (0 ≤ x5_2) = true := decide_eq_true c8
                      clear c8
                      by_cases c10 : (bt a0 x5_2) = 125
                      · rw [if_pos c10] at H
                        have c10b0 : ((bt a0 x5_2) == 125) = true := beq_iff_eq.mpr c10
                        have c10b1 : ((bt a0 x5_2) != 125) = false := bne_eq_false_iff_eq.mpr c10
                        clear c10
                        obtain ⟨ji11, hji11⟩ : ∃ j_ : Int, (wrap64 (x8_1 + 1)) = j_ := ⟨_, rfl⟩
                        replace H : (if 0 ≤ (ji11) then (if (ji11) ≤ x5_2 then (if x5_2 ≤ (a0.size : Int) then (some (a0.extract ((ji11) : Int).toNat (x5_2 : Int).toNat, decide (x5_2 > (ji11)))) else (none)) else (none)) else (none)) = some (r1, r2) := by first | (rw [hji11] at H; exact H) | (simp only [hji11] at H ⊢; exact H)
                        have hji11w : (IntKind.i64.wrap (x8_1 + 1)) = ji11 := (i64_w _).trans hji11
                        by_cases c12 : 0 ≤ (ji11)
                        · rw [if_pos c12] at H
                          have c12b0 := eq_true c12
                          have c12b1 : decide (0 ≤ (ji11)) = true := decide_eq_true c12
                          clear c12
                          by_cases c13 : (ji11) ≤ x5_2
                          · rw [if_pos c13] at H
                            have c13b0 := eq_true c13
                            have c13b1 : decide ((ji11) ≤ x5_2) = true := decide_eq_true c13
                            clear c13
                            by_cases c14 : x5_2 ≤ (a0.size : Int)
                            · rw [if_pos c14] at H
                              have c14b0 := eq_true c14
                              have c14b1 : decide (x5_2 ≤ (a0.size : Int)) = true := decide_eq_true c14
                              clear c14
                              simp only [Option.some.injEq, Prod.mk.injEq] at H
                              obtain ⟨rfl, rfl⟩ := H
                              have p9 : 0 ≤ (x5_2 : Int) := of_decide_eq_true (by first | (with_reducible assumption) | assumption)
                              have q9 : x5_2 < (a0.size : Int) := of_decide_eq_true (by first | (with_reducible assumption) | assumption)
                              have hx9 := bt_at a0 x5_2
                              replace p9 := eq_true p9
                              replace q9 := eq_true q9
                              go_wp2
                              go_ret2
                              exact ⟨by first | rfl | (simp; done) | (simp only [← hji11] <;> (first | rfl | simp)) | (simp [*]; done), by repeat (first | exact Drawn0.refl _ | apply Drawn0.step)⟩
                            · rw [if_neg c14] at H
                              exact absurd H (by simp)
                          · rw [if_neg c13] at H
                            exact absurd H (by simp)
                        · rw [if_neg c12] at H
                          exact absurd H (by simp)
                      · rw [if_neg c10] at H
                        have c10b0 : ((bt a0 x5_2) == 125) = false := beq_eq_false_iff_ne.mpr c10
                        have c10b1 : ((bt a0 x5_2) != 125) = true := bne_iff_ne.mpr c10
                        have H' := Aside0.mk H
                        clear H
                        have p9 : 0 ≤ (x5_2 : Int) := of_decide_eq_true (by first | (with_reducible assumption) | assumption)
                        have q9 : x5_2 < (a0.size : Int) := of_decide_eq_true (by first | (with_reducible assumption) | assumption)
                        have hx9 := bt_at a0 x5_2
                        replace p9 := eq_true p9
                        replace q9 := eq_true q9
                        go_wp2
                        go_roundg k2
                        case measure => have := HK1.out; have := HK2.out; omega
                        case rel => exact ⟨(wrap64 (x5_2 + 1)), (by first | rfl | (simp; done) | (simp [*]; done)), H', ⟨by have := HK1.out; have := HK2.out; omega⟩, by repeat (first | exact Drawn0.refl _ | apply Drawn0.step)⟩
                    · rw [if_neg c8] at H
                      exact absurd H (by simp)
                  · rw [if_neg c7] at H
                    have c7b0 : decide (x5_2 < (a0.size : Int)) = false := decide_eq_false c7
                    clear c7
                    simp only [Option.some.injEq, Prod.mk.injEq] at H
                    obtain ⟨rfl, rfl⟩ := H
                    go_wp2
                    go_ret2
                    exact ⟨by first | rfl | (simp; done) | (simp [*]; done), by repeat (first | exact Drawn0.refl _ | apply Drawn0.step)⟩
            · rw [if_neg c6] at H
              have c6b0 : ((bt a0 x8_1) == 123) = false := beq_eq_false_iff_ne.mpr c6
              have c6b1 : ((bt a0 x8_1) != 123) = true := bne_iff_ne.mpr c6
              have H' := Aside0.mk H
              clear H
              have p5 : 0 ≤ (x8_1 : Int) := of_decide_eq_true (by first | (with_reducible assumption) | assumption)
              have q5 : x8_1 < (a0.size : Int) := of_decide_eq_true (by first | (with_reducible assumption) | assumption)
              have hx5 := bt_at a0 x8_1
              replace p5 := eq_true p5
              replace q5 := eq_true q5
              go_wp2
              go_roundg k1
              case measure => have := HK1.out; omega
              case rel => exact ⟨(wrap64 (x8_1 + 1)), (by first | rfl | (simp; done) | (simp [*]; done)), H', ⟨by have := HK1.out; omega⟩, by repeat (first | exact Drawn0.refl _ | apply Drawn0.step)⟩
          · rw [if_neg c4] at H
            exact absurd H (by simp)
        · rw [if_neg c3] at H
          exact absurd H (by simp)
      · rw [if_neg c2] at H
        have c2b0 : decide (x8_1 < (a0.size : Int)) = false := decide_eq_false c2
        clear c2
        simp only [Option.some.injEq, Prod.mk.injEq] at H
        obtain ⟨rfl, rfl⟩ := H
        go_wp2
        go_ret2
        exact ⟨by first | rfl | (simp; done) | (simp [*]; done), by repeat (first | exact Drawn0.refl _ | apply Drawn0.step)⟩

end Go.Proofs.Ytnbhledkdkchlaa.PAll
