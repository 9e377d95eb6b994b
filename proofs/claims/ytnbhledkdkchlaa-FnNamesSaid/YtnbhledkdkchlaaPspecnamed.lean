/- The Lean function of spec_named and its contract: the Go function comes to exactly what the Lean function answers (laid by the kit's print program). -/
import Derived.Test.YtnbhledkdkchlaaPAllx0
namespace Go.Proofs.Ytnbhledkdkchlaa.PAll
open Go.RowKit Go.Proofs.YtnbhledkdkchlaaW.PrintWords Go.Proofs.YtnbhledkdkchlaaW.PrintLast Go.Proofs.YtnbhledkdkchlaaW.PrintMore
attribute [local go_sem] max2_int min2_int max_two min_two max_three min_three max_four min_four   -- for this text's walks alone
set_option linter.unusedVariables false
set_option linter.unusedSimpArgs false


/-! ### spec_named: function 43 -/
mutual
def spec_named.j0 : Nat → ByteArray → Bool → Option (Bool × Int)
  | 0, _, _ => none
  | k + 1, x0, x13 => if x13 = true then (some (false, 1)) else (if (x0.size : Int) > 10 then (if 0 ≤ (wrap64 ((x0.size : Int) - 10)) then (if (wrap64 ((x0.size : Int) - 10)) ≤ (x0.size : Int) then (spec_named.j1 k x0 x0 ((x0.extract ((wrap64 ((x0.size : Int) - 10)) : Int).toNat x0.size).toList == ([35, 101, 112, 104, 101, 109, 101, 114, 97, 108] : List UInt8))) else (none)) else (none)) else (spec_named.j1 k x0 x0 false))
def spec_named.j1 : Nat → ByteArray → ByteArray → Bool → Option (Bool × Int)
  | 0, _, _, _ => none
  | k + 1, x0, x4, x25 => if x25 = true then (if 0 ≤ (wrap64 ((x0.size : Int) - 10)) then (if (wrap64 ((x0.size : Int) - 10)) ≤ (x0.size : Int) then (spec_named.j2 k (x0.extract 0 ((wrap64 ((x0.size : Int) - 10)) : Int).toNat)) else (none)) else (none)) else (spec_named.j2 k x4)
def spec_named.j2 : Nat → ByteArray → Option (Bool × Int)
  | 0, _ => none
  | k + 1, x4 => spec_named.l0 k x4 (x4.size : Int) 0
def spec_named.l0 : Nat → ByteArray → Int → Int → Option (Bool × Int)
  | 0, _, _, _ => none
  | k + 1, x4, x32, x33 => if x33 < x32 then (if 0 ≤ x33 then (if x33 < (x4.size : Int) then (if (bt x4 x33) < 97 then (if (bt x4 x33) < 65 then (if (bt x4 x33) < 48 then (if (bt x4 x33) = 46 then (spec_named.l0 k x4 x32 (wrap64 (x33 + 1))) else (if (bt x4 x33) = 45 then (spec_named.l0 k x4 x32 (wrap64 (x33 + 1))) else (if (bt x4 x33) = 95 then (spec_named.l0 k x4 x32 (wrap64 (x33 + 1))) else (some (false, 1))))) else (if (bt x4 x33) > 57 then (if (bt x4 x33) = 46 then (spec_named.l0 k x4 x32 (wrap64 (x33 + 1))) else (if (bt x4 x33) = 45 then (spec_named.l0 k x4 x32 (wrap64 (x33 + 1))) else (if (bt x4 x33) = 95 then (spec_named.l0 k x4 x32 (wrap64 (x33 + 1))) else (some (false, 1))))) else (spec_named.l0 k x4 x32 (wrap64 (x33 + 1))))) else (if (bt x4 x33) > 90 then (if (bt x4 x33) < 48 then (if (bt x4 x33) = 46 then (spec_named.l0 k x4 x32 (wrap64 (x33 + 1))) else (if (bt x4 x33) = 45 then (spec_named.l0 k x4 x32 (wrap64 (x33 + 1))) else (if (bt x4 x33) = 95 then (spec_named.l0 k x4 x32 (wrap64 (x33 + 1))) else (some (false, 1))))) else (if (bt x4 x33) > 57 then (if (bt x4 x33) = 46 then (spec_named.l0 k x4 x32 (wrap64 (x33 + 1))) else (if (bt x4 x33) = 45 then (spec_named.l0 k x4 x32 (wrap64 (x33 + 1))) else (if (bt x4 x33) = 95 then (spec_named.l0 k x4 x32 (wrap64 (x33 + 1))) else (some (false, 1))))) else (spec_named.l0 k x4 x32 (wrap64 (x33 + 1))))) else (spec_named.l0 k x4 x32 (wrap64 (x33 + 1))))) else (if (bt x4 x33) > 122 then (if (bt x4 x33) < 65 then (if (bt x4 x33) < 48 then (if (bt x4 x33) = 46 then (spec_named.l0 k x4 x32 (wrap64 (x33 + 1))) else (if (bt x4 x33) = 45 then (spec_named.l0 k x4 x32 (wrap64 (x33 + 1))) else (if (bt x4 x33) = 95 then (spec_named.l0 k x4 x32 (wrap64 (x33 + 1))) else (some (false, 1))))) else (if (bt x4 x33) > 57 then (if (bt x4 x33) = 46 then (spec_named.l0 k x4 x32 (wrap64 (x33 + 1))) else (if (bt x4 x33) = 45 then (spec_named.l0 k x4 x32 (wrap64 (x33 + 1))) else (if (bt x4 x33) = 95 then (spec_named.l0 k x4 x32 (wrap64 (x33 + 1))) else (some (false, 1))))) else (spec_named.l0 k x4 x32 (wrap64 (x33 + 1))))) else (if (bt x4 x33) > 90 then (if (bt x4 x33) < 48 then (if (bt x4 x33) = 46 then (spec_named.l0 k x4 x32 (wrap64 (x33 + 1))) else (if (bt x4 x33) = 45 then (spec_named.l0 k x4 x32 (wrap64 (x33 + 1))) else (if (bt x4 x33) = 95 then (spec_named.l0 k x4 x32 (wrap64 (x33 + 1))) else (some (false, 1))))) else (if (bt x4 x33) > 57 then (if (bt x4 x33) = 46 then (spec_named.l0 k x4 x32 (wrap64 (x33 + 1))) else (if (bt x4 x33) = 45 then (spec_named.l0 k x4 x32 (wrap64 (x33 + 1))) else (if (bt x4 x33) = 95 then (spec_named.l0 k x4 x32 (wrap64 (x33 + 1))) else (some (false, 1))))) else (spec_named.l0 k x4 x32 (wrap64 (x33 + 1))))) else (spec_named.l0 k x4 x32 (wrap64 (x33 + 1))))) else (spec_named.l0 k x4 x32 (wrap64 (x33 + 1))))) else (none)) else (none)) else (some (true, 1))
end
def spec_named.f (k : Nat) (a0 : ByteArray) : Option (Bool × Int) := if (a0.size : Int) > 64 then (spec_named.j0 k a0 true) else (spec_named.j0 k a0 (a0.toList == ([] : List UInt8)))
theorem spec_named.mono_l : ∀ k, (∀ y0 y1, LeO (spec_named.j0 k y0 y1) (spec_named.j0 (k + 1) y0 y1)) ∧ (∀ y0 y1 y2, LeO (spec_named.j1 k y0 y1 y2) (spec_named.j1 (k + 1) y0 y1 y2)) ∧ (∀ y0, LeO (spec_named.j2 k y0) (spec_named.j2 (k + 1) y0)) ∧ (∀ y0 y1 y2, LeO (spec_named.l0 k y0 y1 y2) (spec_named.l0 (k + 1) y0 y1 y2))
  | 0 => ⟨fun _ _ r h => by simp [spec_named.j0] at h, fun _ _ _ r h => by simp [spec_named.j1] at h, fun _ r h => by simp [spec_named.j2] at h, fun _ _ _ r h => by simp [spec_named.l0] at h⟩
  | k + 1 => by
    obtain ⟨ih0, ih1, ih2, ih3⟩ := spec_named.mono_l k
    refine ⟨?_, ?_, ?_, ?_⟩
    · intro y0 y1
      unfold spec_named.j0
      repeat' first
      | (with_reducible exact ih0 _ _)
      | (with_reducible exact ih1 _ _ _)
      | (with_reducible exact ih2 _)
      | (with_reducible exact ih3 _ _ _)
      | (with_reducible exact LeO.refl _)
      | (with_reducible exact LeO.none _)
      | (with_reducible refine LeO.ite ?_ ?_)
      | (with_reducible refine LeO.bind ?_ (fun _ => ?_))
      | exact ih0 _ _
      | exact ih1 _ _ _
      | exact ih2 _
      | exact ih3 _ _ _
      | exact LeO.none _
      | refine LeO.ite ?_ ?_
      | refine LeO.bind ?_ (fun _ => ?_)
    · intro y0 y1 y2
      unfold spec_named.j1
      repeat' first
      | (with_reducible exact ih0 _ _)
      | (with_reducible exact ih1 _ _ _)
      | (with_reducible exact ih2 _)
      | (with_reducible exact ih3 _ _ _)
      | (with_reducible exact LeO.refl _)
      | (with_reducible exact LeO.none _)
      | (with_reducible refine LeO.ite ?_ ?_)
      | (with_reducible refine LeO.bind ?_ (fun _ => ?_))
      | exact ih0 _ _
      | exact ih1 _ _ _
      | exact ih2 _
      | exact ih3 _ _ _
      | exact LeO.none _
      | refine LeO.ite ?_ ?_
      | refine LeO.bind ?_ (fun _ => ?_)
    · intro y0
      unfold spec_named.j2
      repeat' first
      | (with_reducible exact ih0 _ _)
      | (with_reducible exact ih1 _ _ _)
      | (with_reducible exact ih2 _)
      | (with_reducible exact ih3 _ _ _)
      | (with_reducible exact LeO.refl _)
      | (with_reducible exact LeO.none _)
      | (with_reducible refine LeO.ite ?_ ?_)
      | (with_reducible refine LeO.bind ?_ (fun _ => ?_))
      | exact ih0 _ _
      | exact ih1 _ _ _
      | exact ih2 _
      | exact ih3 _ _ _
      | exact LeO.none _
      | refine LeO.ite ?_ ?_
      | refine LeO.bind ?_ (fun _ => ?_)
    · intro y0 y1 y2
      unfold spec_named.l0
      repeat' first
      | (with_reducible exact ih0 _ _)
      | (with_reducible exact ih1 _ _ _)
      | (with_reducible exact ih2 _)
      | (with_reducible exact ih3 _ _ _)
      | (with_reducible exact LeO.refl _)
      | (with_reducible exact LeO.none _)
      | (with_reducible refine LeO.ite ?_ ?_)
      | (with_reducible refine LeO.bind ?_ (fun _ => ?_))
      | exact ih0 _ _
      | exact ih1 _ _ _
      | exact ih2 _
      | exact ih3 _ _ _
      | exact LeO.none _
      | refine LeO.ite ?_ ?_
      | refine LeO.bind ?_ (fun _ => ?_)
theorem spec_named.mono : ∀ a0 k, LeO (spec_named.f k a0) (spec_named.f (k + 1) a0) := by
  intro a0 k
  obtain ⟨ih0, ih1, ih2, ih3⟩ := spec_named.mono_l k
  unfold spec_named.f
  repeat' first
      | (with_reducible exact ih0 _ _)
      | (with_reducible exact ih1 _ _ _)
      | (with_reducible exact ih2 _)
      | (with_reducible exact ih3 _ _ _)
      | (with_reducible exact LeO.refl _)
      | (with_reducible exact LeO.none _)
      | (with_reducible refine LeO.ite ?_ ?_)
      | (with_reducible refine LeO.bind ?_ (fun _ => ?_))
      | exact ih0 _ _
      | exact ih1 _ _ _
      | exact ih2 _
      | exact ih3 _ _ _
      | exact LeO.none _
      | refine LeO.ite ?_ ?_
      | refine LeO.bind ?_ (fun _ => ?_)
set_option maxHeartbeats 8000000 in
set_option maxRecDepth 100000 in
theorem spec_named.calls (k : Nat) (a0 : ByteArray) (r1 : Bool) (r2 : Int) (w : World) (h : spec_named.f k a0 = some (r1, r2)) :
    Calls Try.prog 43 #[.string a0] w fun e w' => e = .returned (.tuple #[.bool r1, .int .i64 r2]) ∧ Drawn0 w w' := by
  have H : (if (a0.size : Int) > 64 then (spec_named.j0 k a0 true) else (spec_named.j0 k a0 (a0.toList == ([] : List UInt8)))) = some (r1, r2) := h
  clear h
  have HC2 := Aside0.mk H
  clear H
  go_enter Try.func43, Try.ntmps43
  go_upto_region 1 with (fail)
  go_cut [13] (fun v13 wc => ∃ (kq : Nat) (x13_1 : Bool), v13 = .bool x13_1 ∧ Aside0 (spec_named.j0 kq a0 x13_1 = some (r1, r2)) ∧ Aside0 (kq ≤ k) ∧ Drawn0 w wc)
  case first =>
    have H := HC2.out
    clear HC2
    by_cases c3 : (a0.size : Int) > 64
    · rw [if_pos c3] at H
      have c3b0 : decide (64 < (a0.size : Int)) = true := decide_eq_true c3
      have c3b1 : decide (64 < a0.size) = true := decide_eq_true (by omega)
      clear c3
      (first | rw [c3b0] | (simp only [i64_w, i32_w]; rw [c3b0]) | skip)
      have H' := Aside0.mk H
      clear H
      go_wp2
      go_meet
      case rel => exact ⟨_, (true), (by first | rfl | (simp; done) | (simp [*]; done)), H', ⟨by first | omega | exact Nat.le_refl _⟩, by repeat (first | exact Drawn0.refl _ | apply Drawn0.step)⟩
    · rw [if_neg c3] at H
      have c3b0 : decide (64 < (a0.size : Int)) = false := decide_eq_false c3
      have c3b1 : decide (64 < a0.size) = false := decide_eq_false (by omega)
      clear c3
      (first | rw [c3b0] | (simp only [i64_w, i32_w]; rw [c3b0]) | skip)
      have H' := Aside0.mk H
      clear H
      go_wp2
      go_meet
      case rel => exact ⟨_, ((a0.toList == ([] : List UInt8))), (by first | rfl | (simp; done) | (simp [*]; done)), H', ⟨by first | omega | exact Nat.le_refl _⟩, by repeat (first | exact Drawn0.refl _ | apply Drawn0.step)⟩
  case rest =>
    clear HC2
    try clear p2
    try clear c3
    try clear c3b0
    try clear c3b1
    obtain ⟨kq, x13_1, rfl, HA, HJ1, ⟨mc1, rfl⟩⟩ := hcut
    cases kq with
    | zero => exact absurd HA.out (by simp [spec_named.j0])
    | succ kj1 =>
      have H := HA.out
      clear HA
      simp only [spec_named.j0] at H
      by_cases c4 : x13_1 = true
      · subst c4
        have H1 : (some (false, 1)) = some (r1, r2) := by rw [if_pos rfl] at H; exact H
        clear H
        have H := H1
        clear H1
        simp only [Option.some.injEq, Prod.mk.injEq] at H
        obtain ⟨rfl, rfl⟩ := H
        go_wp2
        go_ret2
        exact ⟨by first | rfl | (simp; done) | (simp [*]; done), by repeat (first | exact Drawn0.refl _ | apply Drawn0.step)⟩
      · replace c4 := Bool.eq_false_iff.mpr c4
        subst c4
        have H1 : (if (a0.size : Int) > 10 then (if 0 ≤ (wrap64 ((a0.size : Int) - 10)) then (if (wrap64 ((a0.size : Int) - 10)) ≤ (a0.size : Int) then (spec_named.j1 kj1 a0 a0 ((a0.extract ((wrap64 ((a0.size : Int) - 10)) : Int).toNat a0.size).toList == ([35, 101, 112, 104, 101, 109, 101, 114, 97, 108] : List UInt8))) else (none)) else (none)) else (spec_named.j1 kj1 a0 a0 false)) = some (r1, r2) := by rw [if_neg (show ¬ (false = true) by decide)] at H; exact H
        clear H
        have H := H1
        clear H1
        have HC5 := Aside0.mk H
        clear H
        go_upto_region 4 with (fail)
        go_cut [25] (fun v25 wc => ∃ (kq : Nat) (x25_4 : Bool), v25 = .bool x25_4 ∧ Aside0 (spec_named.j1 kq a0 a0 x25_4 = some (r1, r2)) ∧ Aside0 (kq ≤ kj1) ∧ Drawn0 w wc)
        case first =>
          have H := HC5.out
          clear HC5
          by_cases c6 : (a0.size : Int) > 10
          · rw [if_pos c6] at H
            have c6b0 : decide (10 < (a0.size : Int)) = true := decide_eq_true c6
            have c6b1 : decide (10 < a0.size) = true := decide_eq_true (by omega)
            clear c6
            (first | rw [c6b0] | (simp only [i64_w, i32_w]; rw [c6b0]) | skip)
            obtain ⟨ji7, hji7⟩ : ∃ j_ : Int, (wrap64 ((a0.size : Int) - 10)) = j_ := ⟨_, rfl⟩
            replace H : (if 0 ≤ (ji7) then (if (ji7) ≤ (a0.size : Int) then (spec_named.j1 kj1 a0 a0 ((a0.extract ((ji7) : Int).toNat a0.size).toList == ([35, 101, 112, 104, 101, 109, 101, 114, 97, 108] : List UInt8))) else (none)) else (none)) = some (r1, r2) := by first | (rw [hji7] at H; exact H) | (simp only [hji7] at H ⊢; exact H)
            have hji7w : (IntKind.i64.wrap ((a0.size : Int) - 10)) = ji7 := (i64_w _).trans hji7
            by_cases c8 : 0 ≤ (ji7)
            · rw [if_pos c8] at H
              have c8b0 := eq_true c8
              have c8b1 : decide (0 ≤ (ji7)) = true := decide_eq_true c8
              clear c8
              by_cases c9 : (ji7) ≤ (a0.size : Int)
              · rw [if_pos c9] at H
                have c9b0 := eq_true c9
                have c9b1 : decide ((ji7) ≤ (a0.size : Int)) = true := decide_eq_true c9
                clear c9
                have H' := Aside0.mk H
                clear H
                go_wp2
                go_meet
                case rel => exact ⟨_, (((a0.extract ((ji7) : Int).toNat a0.size).toList == ([35, 101, 112, 104, 101, 109, 101, 114, 97, 108] : List UInt8))), (by first | rfl | (simp; done) | (simp only [← hji7] <;> (first | rfl | simp)) | (simp [*]; done)), H', ⟨by have := HJ1.out; first | omega | exact Nat.le_refl _⟩, by repeat (first | exact Drawn0.refl _ | apply Drawn0.step)⟩
              · rw [if_neg c9] at H
                exact absurd H (by simp)
            · rw [if_neg c8] at H
              exact absurd H (by simp)
          · rw [if_neg c6] at H
            have c6b0 : decide (10 < (a0.size : Int)) = false := decide_eq_false c6
            have c6b1 : decide (10 < a0.size) = false := decide_eq_false (by omega)
            clear c6
            (first | rw [c6b0] | (simp only [i64_w, i32_w]; rw [c6b0]) | skip)
            have H' := Aside0.mk H
            clear H
            go_wp2
            go_meet
            case rel => exact ⟨_, (false), (by first | rfl | (simp; done) | (simp [*]; done)), H', ⟨by have := HJ1.out; first | omega | exact Nat.le_refl _⟩, by repeat (first | exact Drawn0.refl _ | apply Drawn0.step)⟩
        case rest =>
          clear HC5
          try clear c1
          try clear p2
          try clear c3
          try clear c3b0
          try clear c3b1
          try clear c4
          try clear c6
          try clear c6b0
          try clear c6b1
          try clear p6
          try clear c8
          try clear c8b0
          try clear c8b1
          try clear c9
          try clear c9b0
          try clear c9b1
          try clear p2
          obtain ⟨kq, x25_4, rfl, HA, HJ4, ⟨mc4, rfl⟩⟩ := hcut
          cases kq with
          | zero => exact absurd HA.out (by simp [spec_named.j1])
          | succ kj4 =>
            have H := HA.out
            clear HA
            simp only [spec_named.j1] at H
            have HC10 := Aside0.mk H
            clear H
            go_upto_if 25 with (fail)
            go_cut [4] (fun v4 wc => ∃ (kq : Nat) (x4_9 : ByteArray), v4 = .string x4_9 ∧ Aside0 (spec_named.j2 kq x4_9 = some (r1, r2)) ∧ Aside0 (kq ≤ kj4) ∧ Drawn0 w wc)
            case first =>
              have H := HC10.out
              clear HC10
              by_cases c11 : x25_4 = true
              · subst c11
                have H1 : (if 0 ≤ (wrap64 ((a0.size : Int) - 10)) then (if (wrap64 ((a0.size : Int) - 10)) ≤ (a0.size : Int) then (spec_named.j2 kj4 (a0.extract 0 ((wrap64 ((a0.size : Int) - 10)) : Int).toNat)) else (none)) else (none)) = some (r1, r2) := by rw [if_pos rfl] at H; exact H
                clear H
                have H := H1
                clear H1
                obtain ⟨ji12, hji12⟩ : ∃ j_ : Int, (wrap64 ((a0.size : Int) - 10)) = j_ := ⟨_, rfl⟩
                replace H : (if 0 ≤ (ji12) then (if (ji12) ≤ (a0.size : Int) then (spec_named.j2 kj4 (a0.extract 0 ((ji12) : Int).toNat)) else (none)) else (none)) = some (r1, r2) := by first | (rw [hji12] at H; exact H) | (simp only [hji12] at H ⊢; exact H)
                have hji12w : (IntKind.i64.wrap ((a0.size : Int) - 10)) = ji12 := (i64_w _).trans hji12
                by_cases c13 : 0 ≤ (ji12)
                · rw [if_pos c13] at H
                  have c13b0 := eq_true c13
                  have c13b1 : decide (0 ≤ (ji12)) = true := decide_eq_true c13
                  clear c13
                  by_cases c14 : (ji12) ≤ (a0.size : Int)
                  · rw [if_pos c14] at H
                    have c14b0 := eq_true c14
                    have c14b1 : decide ((ji12) ≤ (a0.size : Int)) = true := decide_eq_true c14
                    clear c14
                    have H' := Aside0.mk H
                    clear H
                    go_wp2
                    go_meet
                    case rel => exact ⟨_, (a0.extract 0 ((ji12) : Int).toNat), (by first | rfl | (simp; done) | (simp only [← hji12] <;> (first | rfl | simp)) | (simp [*]; done)), H', ⟨by have := HJ1.out; have := HJ4.out; first | omega | exact Nat.le_refl _⟩, by repeat (first | exact Drawn0.refl _ | apply Drawn0.step)⟩
                  · rw [if_neg c14] at H
                    exact absurd H (by simp)
                · rw [if_neg c13] at H
                  exact absurd H (by simp)
              · replace c11 := Bool.eq_false_iff.mpr c11
                subst c11
                have H1 : (spec_named.j2 kj4 a0) = some (r1, r2) := by rw [if_neg (show ¬ (false = true) by decide)] at H; exact H
                clear H
                have H := H1
                clear H1
                have H' := Aside0.mk H
                clear H
                go_wp2
                go_meet
                case rel => exact ⟨_, (a0), (by first | rfl | (simp; done) | (simp [*]; done)), H', ⟨by have := HJ1.out; have := HJ4.out; first | omega | exact Nat.le_refl _⟩, by repeat (first | exact Drawn0.refl _ | apply Drawn0.step)⟩
            case rest =>
              clear HC10
              try clear c1
              try clear p2
              try clear c3
              try clear c3b0
              try clear c3b1
              try clear c4
              try clear c6
              try clear c6b0
              try clear c6b1
              try clear p6
              try clear c8
              try clear c8b0
              try clear c8b1
              try clear c9
              try clear c9b0
              try clear c9b1
              try clear c11
              try clear c13
              try clear c13b0
              try clear c13b1
              try clear c14
              try clear c14b0
              try clear c14b1
              try clear p2
              try clear p6
              obtain ⟨kq, x4_9, rfl, HA, HJ9, ⟨mc9, rfl⟩⟩ := hcut
              cases kq with
              | zero => exact absurd HA.out (by simp [spec_named.j2])
              | succ kj9 =>
                have H := HA.out
                clear HA
                simp only [spec_named.j2] at H
                have H' := Aside0.mk H
                clear H
                go_wp2
                go_loopg [33] kj9 (fun kq v33 w' => ∃ (x33_4 : Int), v33 = .int .i64 x33_4 ∧ Aside0 (spec_named.l0 kq x4_9 (x4_9.size : Int) x33_4 = some (r1, r2)) ∧ Aside0 (kq ≤ kj9) ∧ Drawn0 w w')
                case atStart => exact ⟨(0), (by first | rfl | (simp; done) | (simp [*]; done)), H', ⟨Nat.le_refl _⟩, by repeat (first | exact Drawn0.refl _ | apply Drawn0.step)⟩
                case round =>
                  clear H'
                  try clear c1
                  try clear p2
                  try clear c3
                  try clear c3b0
                  try clear c3b1
                  try clear c4
                  try clear c6
                  try clear c6b0
                  try clear c6b1
                  try clear p6
                  try clear c8
                  try clear c8b0
                  try clear c8b1
                  try clear c9
                  try clear c9b0
                  try clear c9b1
                  try clear c11
                  try clear c13
                  try clear c13b0
                  try clear c13b1
                  try clear c14
                  try clear c14b0
                  try clear c14b1
                  try clear p2
                  try clear p6
                  obtain ⟨x33_4, rfl, HA, HK4, ⟨m4, rfl⟩⟩ := hrel
                  cases gk with
                  | zero => exact absurd HA.out (by simp [spec_named.l0])
                  | succ k4 =>
                    have H := HA.out
                    clear HA
                    simp only [spec_named.l0] at H
                    by_cases c15 : x33_4 < (x4_9.size : Int)
                    · rw [if_pos c15] at H
                      have c15b0 : decide (x33_4 < (x4_9.size : Int)) = true := decide_eq_true c15
                      clear c15
                      by_cases c16 : 0 ≤ x33_4
                      · rw [if_pos c16] at H
                        have c16b0 : decide (0 ≤ x33_4) = true := decide_eq_true c16
                        clear c16
                        by_cases c17 : x33_4 < (x4_9.size : Int)
                        · rw [if_pos c17] at H
                          have c17b0 : decide (x33_4 < (x4_9.size : Int)) = true := decide_eq_true c17
                          clear c17
                          by_cases c19 : (bt x4_9 x33_4) < 97
                          · rw [if_pos c19] at H
                            have c19b0 : decide ((bt x4_9 x33_4) < 97) = true := decide_eq_true c19
                            clear c19
                            by_cases c20 : (bt x4_9 x33_4) < 65
                            · rw [if_pos c20] at H
                              have c20b0 : decide ((bt x4_9 x33_4) < 65) = true := decide_eq_true c20
                              clear c20
                              by_cases c21 : (bt x4_9 x33_4) < 48
                              · rw [if_pos c21] at H
                                have c21b0 : decide ((bt x4_9 x33_4) < 48) = true := decide_eq_true c21
                                clear c21
                                by_cases c22 : (bt x4_9 x33_4) = 46
                                · rw [if_pos c22] at H
                                  have c22b0 : ((bt x4_9 x33_4) == 46) = true := beq_iff_eq.mpr c22
                                  have c22b1 : ((bt x4_9 x33_4) != 46) = false := bne_eq_false_iff_eq.mpr c22
                                  clear c22
                                  have H' := Aside0.mk H
                                  clear H
                                  have p18 : 0 ≤ (x33_4 : Int) := of_decide_eq_true (by first | (with_reducible assumption) | assumption)
                                  have q18 : x33_4 < (x4_9.size : Int) := of_decide_eq_true (by first | (with_reducible assumption) | assumption)
                                  have hx18 := bt_at x4_9 x33_4
                                  replace p18 := eq_true p18
                                  replace q18 := eq_true q18
                                  go_wp2
                                  go_roundg k4
                                  case measure => have := HJ1.out; have := HJ4.out; have := HJ9.out; have := HK4.out; omega
                                  case rel => exact ⟨(wrap64 (x33_4 + 1)), (by first | rfl | (simp; done) | (simp [*]; done)), H', ⟨by have := HJ1.out; have := HJ4.out; have := HJ9.out; have := HK4.out; omega⟩, by repeat (first | exact Drawn0.refl _ | apply Drawn0.step)⟩
                                · rw [if_neg c22] at H
                                  have c22b0 : ((bt x4_9 x33_4) == 46) = false := beq_eq_false_iff_ne.mpr c22
                                  have c22b1 : ((bt x4_9 x33_4) != 46) = true := bne_iff_ne.mpr c22
                                  by_cases c23 : (bt x4_9 x33_4) = 45
                                  · rw [if_pos c23] at H
                                    have c23b0 : ((bt x4_9 x33_4) == 45) = true := beq_iff_eq.mpr c23
                                    have c23b1 : ((bt x4_9 x33_4) != 45) = false := bne_eq_false_iff_eq.mpr c23
                                    clear c23
                                    have H' := Aside0.mk H
                                    clear H
                                    have p18 : 0 ≤ (x33_4 : Int) := of_decide_eq_true (by first | (with_reducible assumption) | assumption)
                                    have q18 : x33_4 < (x4_9.size : Int) := of_decide_eq_true (by first | (with_reducible assumption) | assumption)
                                    have hx18 := bt_at x4_9 x33_4
                                    replace p18 := eq_true p18
                                    replace q18 := eq_true q18
                                    go_wp2
                                    go_roundg k4
                                    case measure => have := HJ1.out; have := HJ4.out; have := HJ9.out; have := HK4.out; omega
                                    case rel => exact ⟨(wrap64 (x33_4 + 1)), (by first | rfl | (simp; done) | (simp [*]; done)), H', ⟨by have := HJ1.out; have := HJ4.out; have := HJ9.out; have := HK4.out; omega⟩, by repeat (first | exact Drawn0.refl _ | apply Drawn0.step)⟩
                                  · rw [if_neg c23] at H
                                    have c23b0 : ((bt x4_9 x33_4) == 45) = false := beq_eq_false_iff_ne.mpr c23
                                    have c23b1 : ((bt x4_9 x33_4) != 45) = true := bne_iff_ne.mpr c23
                                    by_cases c24 : (bt x4_9 x33_4) = 95
                                    · rw [if_pos c24] at H
                                      have c24b0 : ((bt x4_9 x33_4) == 95) = true := beq_iff_eq.mpr c24
                                      have c24b1 : ((bt x4_9 x33_4) != 95) = false := bne_eq_false_iff_eq.mpr c24
                                      clear c24
                                      have H' := Aside0.mk H
                                      clear H
                                      have p18 : 0 ≤ (x33_4 : Int) := of_decide_eq_true (by first | (with_reducible assumption) | assumption)
                                      have q18 : x33_4 < (x4_9.size : Int) := of_decide_eq_true (by first | (with_reducible assumption) | assumption)
                                      have hx18 := bt_at x4_9 x33_4
                                      replace p18 := eq_true p18
                                      replace q18 := eq_true q18
                                      go_wp2
                                      go_roundg k4
                                      case measure => have := HJ1.out; have := HJ4.out; have := HJ9.out; have := HK4.out; omega
                                      case rel => exact ⟨(wrap64 (x33_4 + 1)), (by first | rfl | (simp; done) | (simp [*]; done)), H', ⟨by have := HJ1.out; have := HJ4.out; have := HJ9.out; have := HK4.out; omega⟩, by repeat (first | exact Drawn0.refl _ | apply Drawn0.step)⟩
                                    · rw [if_neg c24] at H
                                      have c24b0 : ((bt x4_9 x33_4) == 95) = false := beq_eq_false_iff_ne.mpr c24
                                      have c24b1 : ((bt x4_9 x33_4) != 95) = true := bne_iff_ne.mpr c24
                                      simp only [Option.some.injEq, Prod.mk.injEq] at H
                                      obtain ⟨rfl, rfl⟩ := H
                                      have p18 : 0 ≤ (x33_4 : Int) := of_decide_eq_true (by first | (with_reducible assumption) | assumption)
                                      have q18 : x33_4 < (x4_9.size : Int) := of_decide_eq_true (by first | (with_reducible assumption) | assumption)
                                      have hx18 := bt_at x4_9 x33_4
                                      replace p18 := eq_true p18
                                      replace q18 := eq_true q18
                                      go_wp2
                                      go_ret2
                                      exact ⟨by first | rfl | (simp; done) | (simp [*]; done), by repeat (first | exact Drawn0.refl _ | apply Drawn0.step)⟩
                              · rw [if_neg c21] at H
                                have c21b0 : decide ((bt x4_9 x33_4) < 48) = false := decide_eq_false c21
                                clear c21
                                by_cases c25 : (bt x4_9 x33_4) > 57
                                · rw [if_pos c25] at H
                                  have c25b0 : decide (57 < (bt x4_9 x33_4)) = true := decide_eq_true c25
                                  clear c25
                                  by_cases c26 : (bt x4_9 x33_4) = 46
                                  · rw [if_pos c26] at H
                                    have c26b0 : ((bt x4_9 x33_4) == 46) = true := beq_iff_eq.mpr c26
                                    have c26b1 : ((bt x4_9 x33_4) != 46) = false := bne_eq_false_iff_eq.mpr c26
                                    clear c26
                                    have H' := Aside0.mk H
                                    clear H
                                    have p18 : 0 ≤ (x33_4 : Int) := of_decide_eq_true (by first | (with_reducible assumption) | assumption)
                                    have q18 : x33_4 < (x4_9.size : Int) := of_decide_eq_true (by first | (with_reducible assumption) | assumption)
                                    have hx18 := bt_at x4_9 x33_4
                                    replace p18 := eq_true p18
                                    replace q18 := eq_true q18
                                    go_wp2
                                    go_roundg k4
                                    case measure => have := HJ1.out; have := HJ4.out; have := HJ9.out; have := HK4.out; omega
                                    case rel => exact ⟨(wrap64 (x33_4 + 1)), (by first | rfl | (simp; done) | (simp [*]; done)), H', ⟨by have := HJ1.out; have := HJ4.out; have := HJ9.out; have := HK4.out; omega⟩, by repeat (first | exact Drawn0.refl _ | apply Drawn0.step)⟩
                                  · rw [if_neg c26] at H
                                    have c26b0 : ((bt x4_9 x33_4) == 46) = false := beq_eq_false_iff_ne.mpr c26
                                    have c26b1 : ((bt x4_9 x33_4) != 46) = true := bne_iff_ne.mpr c26
                                    by_cases c27 : (bt x4_9 x33_4) = 45
                                    · rw [if_pos c27] at H
                                      have c27b0 : ((bt x4_9 x33_4) == 45) = true := beq_iff_eq.mpr c27
                                      have c27b1 : ((bt x4_9 x33_4) != 45) = false := bne_eq_false_iff_eq.mpr c27
                                      clear c27
                                      have H' := Aside0.mk H
                                      clear H
                                      have p18 : 0 ≤ (x33_4 : Int) := of_decide_eq_true (by first | (with_reducible assumption) | assumption)
                                      have q18 : x33_4 < (x4_9.size : Int) := of_decide_eq_true (by first | (with_reducible assumption) | assumption)
                                      have hx18 := bt_at x4_9 x33_4
                                      replace p18 := eq_true p18
                                      replace q18 := eq_true q18
                                      go_wp2
                                      go_roundg k4
                                      case measure => have := HJ1.out; have := HJ4.out; have := HJ9.out; have := HK4.out; omega
                                      case rel => exact ⟨(wrap64 (x33_4 + 1)), (by first | rfl | (simp; done) | (simp [*]; done)), H', ⟨by have := HJ1.out; have := HJ4.out; have := HJ9.out; have := HK4.out; omega⟩, by repeat (first | exact Drawn0.refl _ | apply Drawn0.step)⟩
                                    · rw [if_neg c27] at H
                                      have c27b0 : ((bt x4_9 x33_4) == 45) = false := beq_eq_false_iff_ne.mpr c27
                                      have c27b1 : ((bt x4_9 x33_4) != 45) = true := bne_iff_ne.mpr c27
                                      by_cases c28 : (bt x4_9 x33_4) = 95
                                      · rw [if_pos c28] at H
                                        have c28b0 : ((bt x4_9 x33_4) == 95) = true := beq_iff_eq.mpr c28
                                        have c28b1 : ((bt x4_9 x33_4) != 95) = false := bne_eq_false_iff_eq.mpr c28
                                        clear c28
                                        have H' := Aside0.mk H
                                        clear H
                                        have p18 : 0 ≤ (x33_4 : Int) := of_decide_eq_true (by first | (with_reducible assumption) | assumption)
                                        have q18 : x33_4 < (x4_9.size : Int) := of_decide_eq_true (by first | (with_reducible assumption) | assumption)
                                        have hx18 := bt_at x4_9 x33_4
                                        replace p18 := eq_true p18
                                        replace q18 := eq_true q18
                                        go_wp2
                                        go_roundg k4
                                        case measure => have := HJ1.out; have := HJ4.out; have := HJ9.out; have := HK4.out; omega
                                        case rel => exact ⟨(wrap64 (x33_4 + 1)), (by first | rfl | (simp; done) | (simp [*]; done)), H', ⟨by have := HJ1.out; have := HJ4.out; have := HJ9.out; have := HK4.out; omega⟩, by repeat (first | exact Drawn0.refl _ | apply Drawn0.step)⟩
                                      · rw [if_neg c28] at H
                                        have c28b0 : ((bt x4_9 x33_4) == 95) = false := beq_eq_false_iff_ne.mpr c28
                                        have c28b1 : ((bt x4_9 x33_4) != 95) = true := bne_iff_ne.mpr c28
                                        simp only [Option.some.injEq, Prod.mk.injEq] at H
                                        obtain ⟨rfl, rfl⟩ := H
                                        have p18 : 0 ≤ (x33_4 : Int) := of_decide_eq_true (by first | (with_reducible assumption) | assumption)
                                        have q18 : x33_4 < (x4_9.size : Int) := of_decide_eq_true (by first | (with_reducible assumption) | assumption)
                                        have hx18 := bt_at x4_9 x33_4
                                        replace p18 := eq_true p18
                                        replace q18 := eq_true q18
                                        go_wp2
                                        go_ret2
                                        exact ⟨by first | rfl | (simp; done) | (simp [*]; done), by repeat (first | exact Drawn0.refl _ | apply Drawn0.step)⟩
                                · rw [if_neg c25] at H
                                  have c25b0 : decide (57 < (bt x4_9 x33_4)) = false := decide_eq_false c25
                                  clear c25
                                  have H' := Aside0.mk H
                                  clear H
                                  have p18 : 0 ≤ (x33_4 : Int) := of_decide_eq_true (by first | (with_reducible assumption) | assumption)
                                  have q18 : x33_4 < (x4_9.size : Int) := of_decide_eq_true (by first | (with_reducible assumption) | assumption)
                                  have hx18 := bt_at x4_9 x33_4
                                  replace p18 := eq_true p18
                                  replace q18 := eq_true q18
                                  go_wp2
                                  go_roundg k4
                                  case measure => have := HJ1.out; have := HJ4.out; have := HJ9.out; have := HK4.out; omega
                                  case rel => exact ⟨(wrap64 (x33_4 + 1)), (by first | rfl | (simp; done) | (simp [*]; done)), H', ⟨by have := HJ1.out; have := HJ4.out; have := HJ9.out; have := HK4.out; omega⟩, by repeat (first | exact Drawn0.refl _ | apply Drawn0.step)⟩
                            · rw [if_neg c20] at H
                              have c20b0 : decide ((bt x4_9 x33_4) < 65) = false := decide_eq_false c20
                              clear c20
                              by_cases c29 : (bt x4_9 x33_4) > 90
                              · rw [if_pos c29] at H
                                have c29b0 : decide (90 < (bt x4_9 x33_4)) = true := decide_eq_true c29
                                clear c29
                                by_cases c30 : (bt x4_9 x33_4) < 48
                                · rw [if_pos c30] at H
                                  have c30b0 : decide ((bt x4_9 x33_4) < 48) = true := decide_eq_true c30
                                  clear c30
                                  by_cases c31 : (bt x4_9 x33_4) = 46
                                  · rw [if_pos c31] at H
                                    have c31b0 : ((bt x4_9 x33_4) == 46) = true := beq_iff_eq.mpr c31
                                    have c31b1 : ((bt x4_9 x33_4) != 46) = false := bne_eq_false_iff_eq.mpr c31
                                    clear c31
                                    have H' := Aside0.mk H
                                    clear H
                                    have p18 : 0 ≤ (x33_4 : Int) := of_decide_eq_true (by first | (with_reducible assumption) | assumption)
                                    have q18 : x33_4 < (x4_9.size : Int) := of_decide_eq_true (by first | (with_reducible assumption) | assumption)
                                    have hx18 := bt_at x4_9 x33_4
                                    replace p18 := eq_true p18
                                    replace q18 := eq_true q18
                                    go_wp2
                                    go_roundg k4
                                    case measure => have := HJ1.out; have := HJ4.out; have := HJ9.out; have := HK4.out; omega
                                    case rel => exact ⟨(wrap64 (x33_4 + 1)), (by first | rfl | (simp; done) | (simp [*]; done)), H', ⟨by have := HJ1.out; have := HJ4.out; have := HJ9.out; have := HK4.out; omega⟩, by repeat (first | exact Drawn0.refl _ | apply Drawn0.step)⟩
                                  · rw [if_neg c31] at H
                                    have c31b0 : ((bt x4_9 x33_4) == 46) = false := beq_eq_false_iff_ne.mpr c31
                                    have c31b1 : ((bt x4_9 x33_4) != 46) = true := bne_iff_ne.mpr c31
                                    by_cases c32 : (bt x4_9 x33_4) = 45
                                    · rw [if_pos c32] at H
                                      have c32b0 : ((bt x4_9 x33_4) == 45) = true := beq_iff_eq.mpr c32
                                      have c32b1 : ((bt x4_9 x33_4) != 45) = false := bne_eq_false_iff_eq.mpr c32
                                      clear c32
                                      have H' := Aside0.mk H
                                      clear H
                                      have p18 : 0 ≤ (x33_4 : Int) := of_decide_eq_true (by first | (with_reducible assumption) | assumption)
                                      have q18 : x33_4 < (x4_9.size : Int) := of_decide_eq_true (by first | (with_reducible assumption) | assumption)
                                      have hx18 := bt_at x4_9 x33_4
                                      replace p18 := eq_true p18
                                      replace q18 := eq_true q18
                                      go_wp2
                                      go_roundg k4
                                      case measure => have := HJ1.out; have := HJ4.out; have := HJ9.out; have := HK4.out; omega
                                      case rel => exact ⟨(wrap64 (x33_4 + 1)), (by first | rfl | (simp; done) | (simp [*]; done)), H', ⟨by have := HJ1.out; have := HJ4.out; have := HJ9.out; have := HK4.out; omega⟩, by repeat (first | exact Drawn0.refl _ | apply Drawn0.step)⟩
                                    · rw [if_neg c32] at H
                                      have c32b0 : ((bt x4_9 x33_4) == 45) = false := beq_eq_false_iff_ne.mpr c32
                                      have c32b1 : ((bt x4_9 x33_4) != 45) = true := bne_iff_ne.mpr c32
                                      by_cases c33 : (bt x4_9 x33_4) = 95
                                      · rw [if_pos c33] at H
                                        have c33b0 : ((bt x4_9 x33_4) == 95) = true := beq_iff_eq.mpr c33
                                        have c33b1 : ((bt x4_9 x33_4) != 95) = false := bne_eq_false_iff_eq.mpr c33
                                        clear c33
                                        have H' := Aside0.mk H
                                        clear H
                                        have p18 : 0 ≤ (x33_4 : Int) := of_decide_eq_true (by first | (with_reducible assumption) | assumption)
                                        have q18 : x33_4 < (x4_9.size : Int) := of_decide_eq_true (by first | (with_reducible assumption) | assumption)
                                        have hx18 := bt_at x4_9 x33_4
                                        replace p18 := eq_true p18
                                        replace q18 := eq_true q18
                                        go_wp2
                                        go_roundg k4
                                        case measure => have := HJ1.out; have := HJ4.out; have := HJ9.out; have := HK4.out; omega
                                        case rel => exact ⟨(wrap64 (x33_4 + 1)), (by first | rfl | (simp; done) | (simp [*]; done)), H', ⟨by have := HJ1.out; have := HJ4.out; have := HJ9.out; have := HK4.out; omega⟩, by repeat (first | exact Drawn0.refl _ | apply Drawn0.step)⟩
                                      · rw [if_neg c33] at H
                                        have c33b0 : ((bt x4_9 x33_4) == 95) = false := beq_eq_false_iff_ne.mpr c33
                                        have c33b1 : ((bt x4_9 x33_4) != 95) = true := bne_iff_ne.mpr c33
                                        simp only [Option.some.injEq, Prod.mk.injEq] at H
                                        obtain ⟨rfl, rfl⟩ := H
                                        have p18 : 0 ≤ (x33_4 : Int) := of_decide_eq_true (by first | (with_reducible assumption) | assumption)
                                        have q18 : x33_4 < (x4_9.size : Int) := of_decide_eq_true (by first | (with_reducible assumption) | assumption)
                                        have hx18 := bt_at x4_9 x33_4
                                        replace p18 := eq_true p18
                                        replace q18 := eq_true q18
                                        go_wp2
                                        go_ret2
                                        exact ⟨by first | rfl | (simp; done) | (simp [*]; done), by repeat (first | exact Drawn0.refl _ | apply Drawn0.step)⟩
                                · rw [if_neg c30] at H
                                  have c30b0 : decide ((bt x4_9 x33_4) < 48) = false := decide_eq_false c30
                                  clear c30
                                  by_cases c34 : (bt x4_9 x33_4) > 57
                                  · rw [if_pos c34] at H
                                    have c34b0 : decide (57 < (bt x4_9 x33_4)) = true := decide_eq_true c34
                                    clear c34
                                    by_cases c35 : (bt x4_9 x33_4) = 46
                                    · rw [if_pos c35] at H
                                      have c35b0 : ((bt x4_9 x33_4) == 46) = true := beq_iff_eq.mpr c35
                                      have c35b1 : ((bt x4_9 x33_4) != 46) = false := bne_eq_false_iff_eq.mpr c35
                                      clear c35
                                      have H' := Aside0.mk H
                                      clear H
                                      have p18 : 0 ≤ (x33_4 : Int) := of_decide_eq_true (by first | (with_reducible assumption) | assumption)
                                      have q18 : x33_4 < (x4_9.size : Int) := of_decide_eq_true (by first | (with_reducible assumption) | assumption)
                                      have hx18 := bt_at x4_9 x33_4
                                      replace p18 := eq_true p18
                                      replace q18 := eq_true q18
                                      go_wp2
                                      go_roundg k4
                                      case measure => have := HJ1.out; have := HJ4.out; have := HJ9.out; have := HK4.out; omega
                                      case rel => exact ⟨(wrap64 (x33_4 + 1)), (by first | rfl | (simp; done) | (simp [*]; done)), H', ⟨by have := HJ1.out; have := HJ4.out; have := HJ9.out; have := HK4.out; omega⟩, by repeat (first | exact Drawn0.refl _ | apply Drawn0.step)⟩
                                    · rw [if_neg c35] at H
                                      have c35b0 : ((bt x4_9 x33_4) == 46) = false := beq_eq_false_iff_ne.mpr c35
                                      have c35b1 : ((bt x4_9 x33_4) != 46) = true := bne_iff_ne.mpr c35
                                      by_cases c36 : (bt x4_9 x33_4) = 45
                                      · rw [if_pos c36] at H
                                        have c36b0 : ((bt x4_9 x33_4) == 45) = true := beq_iff_eq.mpr c36
                                        have c36b1 : ((bt x4_9 x33_4) != 45) = false := bne_eq_false_iff_eq.mpr c36
                                        clear c36
                                        have H' := Aside0.mk H
                                        clear H
                                        have p18 : 0 ≤ (x33_4 : Int) := of_decide_eq_true (by first | (with_reducible assumption) | assumption)
                                        have q18 : x33_4 < (x4_9.size : Int) := of_decide_eq_true (by first | (with_reducible assumption) | assumption)
                                        have hx18 := bt_at x4_9 x33_4
                                        replace p18 := eq_true p18
                                        replace q18 := eq_true q18
                                        go_wp2
                                        go_roundg k4
                                        case measure => have := HJ1.out; have := HJ4.out; have := HJ9.out; have := HK4.out; omega
                                        case rel => exact ⟨(wrap64 (x33_4 + 1)), (by first | rfl | (simp; done) | (simp [*]; done)), H', ⟨by have := HJ1.out; have := HJ4.out; have := HJ9.out; have := HK4.out; omega⟩, by repeat (first | exact Drawn0.refl _ | apply Drawn0.step)⟩
                                      · rw [if_neg c36] at H
                                        have c36b0 : ((bt x4_9 x33_4) == 45) = false := beq_eq_false_iff_ne.mpr c36
                                        have c36b1 : ((bt x4_9 x33_4) != 45) = true := bne_iff_ne.mpr c36
                                        by_cases c37 : (bt x4_9 x33_4) = 95
                                        · rw [if_pos c37] at H
                                          have c37b0 : ((bt x4_9 x33_4) == 95) = true := beq_iff_eq.mpr c37
                                          have c37b1 : ((bt x4_9 x33_4) != 95) = false := bne_eq_false_iff_eq.mpr c37
                                          clear c37
                                          have H' := Aside0.mk H
                                          clear H
                                          have p18 : 0 ≤ (x33_4 : Int) := of_decide_eq_true (by first | (with_reducible assumption) | assumption)
                                          have q18 : x33_4 < (x4_9.size : Int) := of_decide_eq_true (by first | (with_reducible assumption) | assumption)
                                          have hx18 := bt_at x4_9 x33_4
                                          replace p18 := eq_true p18
                                          replace q18 := eq_true q18
                                          go_wp2
                                          go_roundg k4
                                          case measure => have := HJ1.out; have := HJ4.out; have := HJ9.out; have := HK4.out; omega
                                          case rel => exact ⟨(wrap64 (x33_4 + 1)), (by first | rfl | (simp; done) | (simp [*]; done)), H', ⟨by have := HJ1.out; have := HJ4.out; have := HJ9.out; have := HK4.out; omega⟩, by repeat (first | exact Drawn0.refl _ | apply Drawn0.step)⟩
                                        · rw [if_neg c37] at H
                                          have c37b0 : ((bt x4_9 x33_4) == 95) = false := beq_eq_false_iff_ne.mpr c37
                                          have c37b1 : ((bt x4_9 x33_4) != 95) = true := bne_iff_ne.mpr c37
                                          simp only [Option.some.injEq, Prod.mk.injEq] at H
                                          obtain ⟨rfl, rfl⟩ := H
                                          have p18 : 0 ≤ (x33_4 : Int) := of_decide_eq_true (by first | (with_reducible assumption) | assumption)
                                          have q18 : x33_4 < (x4_9.size : Int) := of_decide_eq_true (by first | (with_reducible assumption) | assumption)
                                          have hx18 := bt_at x4_9 x33_4
                                          replace p18 := eq_true p18
                                          replace q18 := eq_true q18
                                          go_wp2
                                          go_ret2
                                          exact ⟨by first | rfl | (simp; done) | (simp [*]; done), by repeat (first | exact Drawn0.refl _ | apply Drawn0.step)⟩
                                  · rw [if_neg c34] at H
                                    have c34b0 : decide (57 < (bt x4_9 x33_4)) = false := decide_eq_false c34
                                    clear c34
                                    have H' := Aside0.mk H
                                    clear H
                                    have p18 : 0 ≤ (x33_4 : Int) := of_decide_eq_true (by first | (with_reducible assumption) | assumption)
                                    have q18 : x33_4 < (x4_9.size : Int) := of_decide_eq_true (by first | (with_reducible assumption) | assumption)
                                    have hx18 := bt_at x4_9 x33_4
                                    replace p18 := eq_true p18
                                    replace q18 := eq_true q18
                                    go_wp2
                                    go_roundg k4
                                    case measure => have := HJ1.out; have := HJ4.out; have := HJ9.out; have := HK4.out; omega
                                    case rel => exact ⟨(wrap64 (x33_4 + 1)), (by first | rfl | (simp; done) | (simp [*]; done)), H', ⟨by have := HJ1.out; have := HJ4.out; have := HJ9.out; have := HK4.out; omega⟩, by repeat (first | exact Drawn0.refl _ | apply Drawn0.step)⟩
                              · rw [if_neg c29] at H
                                have c29b0 : decide (90 < (bt x4_9 x33_4)) = false := decide_eq_false c29
                                clear c29
                                have H' := Aside0.mk H
                                clear H
                                have p18 : 0 ≤ (x33_4 : Int) := of_decide_eq_true (by first | (with_reducible assumption) | assumption)
                                have q18 : x33_4 < (x4_9.size : Int) := of_decide_eq_true (by first | (with_reducible assumption) | assumption)
                                have hx18 := bt_at x4_9 x33_4
                                replace p18 := eq_true p18
                                replace q18 := eq_true q18
                                go_wp2
                                go_roundg k4
                                case measure => have := HJ1.out; have := HJ4.out; have := HJ9.out; have := HK4.out; omega
                                case rel => exact ⟨(wrap64 (x33_4 + 1)), (by first | rfl | (simp; done) | (simp [*]; done)), H', ⟨by have := HJ1.out; have := HJ4.out; have := HJ9.out; have := HK4.out; omega⟩, by repeat (first | exact Drawn0.refl _ | apply Drawn0.step)⟩
                          · rw [if_neg c19] at H
                            have c19b0 : decide ((bt x4_9 x33_4) < 97) = false := decide_eq_false c19
                            clear c19
                            by_cases c38 : (bt x4_9 x33_4) > 122
                            · rw [if_pos c38] at H
                              have c38b0 : decide (122 < (bt x4_9 x33_4)) = true := decide_eq_true c38
                              clear c38
                              by_cases c39 : (bt x4_9 x33_4) < 65
                              · rw [if_pos c39] at H
                                have c39b0 : decide ((bt x4_9 x33_4) < 65) = true := decide_eq_true c39
                                clear c39
                                by_cases c40 : (bt x4_9 x33_4) < 48
                                · rw [if_pos c40] at H
                                  have c40b0 : decide ((bt x4_9 x33_4) < 48) = true := decide_eq_true c40
                                  clear c40
                                  by_cases c41 : (bt x4_9 x33_4) = 46
                                  · rw [if_pos c41] at H
                                    have c41b0 : ((bt x4_9 x33_4) == 46) = true := beq_iff_eq.mpr c41
                                    have c41b1 : ((bt x4_9 x33_4) != 46) = false := bne_eq_false_iff_eq.mpr c41
                                    clear c41
                                    have H' := Aside0.mk H
                                    clear H
                                    have p18 : 0 ≤ (x33_4 : Int) := of_decide_eq_true (by first | (with_reducible assumption) | assumption)
                                    have q18 : x33_4 < (x4_9.size : Int) := of_decide_eq_true (by first | (with_reducible assumption) | assumption)
                                    have hx18 := bt_at x4_9 x33_4
                                    replace p18 := eq_true p18
                                    replace q18 := eq_true q18
                                    go_wp2
                                    go_roundg k4
                                    case measure => have := HJ1.out; have := HJ4.out; have := HJ9.out; have := HK4.out; omega
                                    case rel => exact ⟨(wrap64 (x33_4 + 1)), (by first | rfl | (simp; done) | (simp [*]; done)), H', ⟨by have := HJ1.out; have := HJ4.out; have := HJ9.out; have := HK4.out; omega⟩, by repeat (first | exact Drawn0.refl _ | apply Drawn0.step)⟩
                                  · rw [if_neg c41] at H
                                    have c41b0 : ((bt x4_9 x33_4) == 46) = false := beq_eq_false_iff_ne.mpr c41
                                    have c41b1 : ((bt x4_9 x33_4) != 46) = true := bne_iff_ne.mpr c41
                                    by_cases c42 : (bt x4_9 x33_4) = 45
                                    · rw [if_pos c42] at H
                                      have c42b0 : ((bt x4_9 x33_4) == 45) = true := beq_iff_eq.mpr c42
                                      have c42b1 : ((bt x4_9 x33_4) != 45) = false := bne_eq_false_iff_eq.mpr c42
                                      clear c42
                                      have H' := Aside0.mk H
                                      clear H
                                      have p18 : 0 ≤ (x33_4 : Int) := of_decide_eq_true (by first | (with_reducible assumption) | assumption)
                                      have q18 : x33_4 < (x4_9.size : Int) := of_decide_eq_true (by first | (with_reducible assumption) | assumption)
                                      have hx18 := bt_at x4_9 x33_4
                                      replace p18 := eq_true p18
                                      replace q18 := eq_true q18
                                      go_wp2
                                      go_roundg k4
                                      case measure => have := HJ1.out; have := HJ4.out; have := HJ9.out; have := HK4.out; omega
                                      case rel => exact ⟨(wrap64 (x33_4 + 1)), (by first | rfl | (simp; done) | (simp [*]; done)), H', ⟨by have := HJ1.out; have := HJ4.out; have := HJ9.out; have := HK4.out; omega⟩, by repeat (first | exact Drawn0.refl _ | apply Drawn0.step)⟩
                                    · rw [if_neg c42] at H
                                      have c42b0 : ((bt x4_9 x33_4) == 45) = false := beq_eq_false_iff_ne.mpr c42
                                      have c42b1 : ((bt x4_9 x33_4) != 45) = true := bne_iff_ne.mpr c42
                                      by_cases c43 : (bt x4_9 x33_4) = 95
                                      · rw [if_pos c43] at H
                                        have c43b0 : ((bt x4_9 x33_4) == 95) = true := beq_iff_eq.mpr c43
                                        have c43b1 : ((bt x4_9 x33_4) != 95) = false := bne_eq_false_iff_eq.mpr c43
                                        clear c43
                                        have H' := Aside0.mk H
                                        clear H
                                        have p18 : 0 ≤ (x33_4 : Int) := of_decide_eq_true (by first | (with_reducible assumption) | assumption)
                                        have q18 : x33_4 < (x4_9.size : Int) := of_decide_eq_true (by first | (with_reducible assumption) | assumption)
                                        have hx18 := bt_at x4_9 x33_4
                                        replace p18 := eq_true p18
                                        replace q18 := eq_true q18
                                        go_wp2
                                        go_roundg k4
                                        case measure => have := HJ1.out; have := HJ4.out; have := HJ9.out; have := HK4.out; omega
                                        case rel => exact ⟨(wrap64 (x33_4 + 1)), (by first | rfl | (simp; done) | (simp [*]; done)), H', ⟨by have := HJ1.out; have := HJ4.out; have := HJ9.out; have := HK4.out; omega⟩, by repeat (first | exact Drawn0.refl _ | apply Drawn0.step)⟩
                                      · rw [if_neg c43] at H
                                        have c43b0 : ((bt x4_9 x33_4) == 95) = false := beq_eq_false_iff_ne.mpr c43
                                        have c43b1 : ((bt x4_9 x33_4) != 95) = true := bne_iff_ne.mpr c43
                                        simp only [Option.some.injEq, Prod.mk.injEq] at H
                                        obtain ⟨rfl, rfl⟩ := H
                                        have p18 : 0 ≤ (x33_4 : Int) := of_decide_eq_true (by first | (with_reducible assumption) | assumption)
                                        have q18 : x33_4 < (x4_9.size : Int) := of_decide_eq_true (by first | (with_reducible assumption) | assumption)
                                        have hx18 := bt_at x4_9 x33_4
                                        replace p18 := eq_true p18
                                        replace q18 := eq_true q18
                                        go_wp2
                                        go_ret2
                                        exact ⟨by first | rfl | (simp; done) | (simp [*]; done), by repeat (first | exact Drawn0.refl _ | apply Drawn0.step)⟩
                                · rw [if_neg c40] at H
                                  have c40b0 : decide ((bt x4_9 x33_4) < 48) = false := decide_eq_false c40
                                  clear c40
                                  by_cases c44 : (bt x4_9 x33_4) > 57
                                  · rw [if_pos c44] at H
                                    have c44b0 : decide (57 < (bt x4_9 x33_4)) = true := decide_eq_true c44
                                    clear c44
                                    by_cases c45 : (bt x4_9 x33_4) = 46
                                    · rw [if_pos c45] at H
                                      have c45b0 : ((bt x4_9 x33_4) == 46) = true := beq_iff_eq.mpr c45
                                      have c45b1 : ((bt x4_9 x33_4) != 46) = false := bne_eq_false_iff_eq.mpr c45
                                      clear c45
                                      have H' := Aside0.mk H
                                      clear H
                                      have p18 : 0 ≤ (x33_4 : Int) := of_decide_eq_true (by first | (with_reducible assumption) | assumption)
                                      have q18 : x33_4 < (x4_9.size : Int) := of_decide_eq_true (by first | (with_reducible assumption) | assumption)
                                      have hx18 := bt_at x4_9 x33_4
                                      replace p18 := eq_true p18
                                      replace q18 := eq_true q18
                                      go_wp2
                                      go_roundg k4
                                      case measure => have := HJ1.out; have := HJ4.out; have := HJ9.out; have := HK4.out; omega
                                      case rel => exact ⟨(wrap64 (x33_4 + 1)), (by first | rfl | (simp; done) | (simp [*]; done)), H', ⟨by have := HJ1.out; have := HJ4.out; have := HJ9.out; have := HK4.out; omega⟩, by repeat (first | exact Drawn0.refl _ | apply Drawn0.step)⟩
                                    · rw [if_neg c45] at H
                                      have c45b0 : ((bt x4_9 x33_4) == 46) = false := beq_eq_false_iff_ne.mpr c45
                                      have c45b1 : ((bt x4_9 x33_4) != 46) = true := bne_iff_ne.mpr c45
                                      by_cases c46 : (bt x4_9 x33_4) = 45
                                      · rw [if_pos c46] at H
                                        have c46b0 : ((bt x4_9 x33_4) == 45) = true := beq_iff_eq.mpr c46
                                        have c46b1 : ((bt x4_9 x33_4) != 45) = false := bne_eq_false_iff_eq.mpr c46
                                        clear c46
                                        have H' := Aside0.mk H
                                        clear H
                                        have p18 : 0 ≤ (x33_4 : Int) := of_decide_eq_true (by first | (with_reducible assumption) | assumption)
                                        have q18 : x33_4 < (x4_9.size : Int) := of_decide_eq_true (by first | (with_reducible assumption) | assumption)
                                        have hx18 := bt_at x4_9 x33_4
                                        replace p18 := eq_true p18
                                        replace q18 := eq_true q18
                                        go_wp2
                                        go_roundg k4
                                        case measure => have := HJ1.out; have := HJ4.out; have := HJ9.out; have := HK4.out; omega
                                        case rel => exact ⟨(wrap64 (x33_4 + 1)), (by first | rfl | (simp; done) | (simp [*]; done)), H', ⟨by have := HJ1.out; have := HJ4.out; have := HJ9.out; have := HK4.out; omega⟩, by repeat (first | exact Drawn0.refl _ | apply Drawn0.step)⟩
                                      · rw [if_neg c46] at H
                                        have c46b0 : ((bt x4_9 x33_4) == 45) = false := beq_eq_false_iff_ne.mpr c46
                                        have c46b1 : ((bt x4_9 x33_4) != 45) = true := bne_iff_ne.mpr c46
                                        by_cases c47 : (bt x4_9 x33_4) = 95
                                        · rw [if_pos c47] at H
                                          have c47b0 : ((bt x4_9 x33_4) == 95) = true := beq_iff_eq.mpr c47
                                          have c47b1 : ((bt x4_9 x33_4) != 95) = false := bne_eq_false_iff_eq.mpr c47
                                          clear c47
                                          have H' := Aside0.mk H
                                          clear H
                                          have p18 : 0 ≤ (x33_4 : Int) := of_decide_eq_true (by first | (with_reducible assumption) | assumption)
                                          have q18 : x33_4 < (x4_9.size : Int) := of_decide_eq_true (by first | (with_reducible assumption) | assumption)
                                          have hx18 := bt_at x4_9 x33_4
                                          replace p18 := eq_true p18
                                          replace q18 := eq_true q18
                                          go_wp2
                                          go_roundg k4
                                          case measure => have := HJ1.out; have := HJ4.out; have := HJ9.out; have := HK4.out; omega
                                          case rel => exact ⟨(wrap64 (x33_4 + 1)), (by first | rfl | (simp; done) | (simp [*]; done)), H', ⟨by have := HJ1.out; have := HJ4.out; have := HJ9.out; have := HK4.out; omega⟩, by repeat (first | exact Drawn0.refl _ | apply Drawn0.step)⟩
                                        · rw [if_neg c47] at H
                                          have c47b0 : ((bt x4_9 x33_4) == 95) = false := beq_eq_false_iff_ne.mpr c47
                                          have c47b1 : ((bt x4_9 x33_4) != 95) = true := bne_iff_ne.mpr c47
                                          simp only [Option.some.injEq, Prod.mk.injEq] at H
                                          obtain ⟨rfl, rfl⟩ := H
                                          have p18 : 0 ≤ (x33_4 : Int) := of_decide_eq_true (by first | (with_reducible assumption) | assumption)
                                          have q18 : x33_4 < (x4_9.size : Int) := of_decide_eq_true (by first | (with_reducible assumption) | assumption)
                                          have hx18 := bt_at x4_9 x33_4
                                          replace p18 := eq_true p18
                                          replace q18 := eq_true q18
                                          go_wp2
                                          go_ret2
                                          exact ⟨by first | rfl | (simp; done) | (simp [*]; done), by repeat (first | exact Drawn0.refl _ | apply Drawn0.step)⟩
                                  · rw [if_neg c44] at H
                                    have c44b0 : decide (57 < (bt x4_9 x33_4)) = false := decide_eq_false c44
                                    clear c44
                                    have H' := Aside0.mk H
                                    clear H
                                    have p18 : 0 ≤ (x33_4 : Int) := of_decide_eq_true (by first | (with_reducible assumption) | assumption)
                                    have q18 : x33_4 < (x4_9.size : Int) := of_decide_eq_true (by first | (with_reducible assumption) | assumption)
                                    have hx18 := bt_at x4_9 x33_4
                                    replace p18 := eq_true p18
                                    replace q18 := eq_true q18
                                    go_wp2
                                    go_roundg k4
                                    case measure => have := HJ1.out; have := HJ4.out; have := HJ9.out; have := HK4.out; omega
                                    case rel => exact ⟨(wrap64 (x33_4 + 1)), (by first | rfl | (simp; done) | (simp [*]; done)), H', ⟨by have := HJ1.out; have := HJ4.out; have := HJ9.out; have := HK4.out; omega⟩, by repeat (first | exact Drawn0.refl _ | apply Drawn0.step)⟩
                              · rw [if_neg c39] at H
                                have c39b0 : decide ((bt x4_9 x33_4) < 65) = false := decide_eq_false c39
                                clear c39
                                by_cases c48 : (bt x4_9 x33_4) > 90
                                · rw [if_pos c48] at H
                                  have c48b0 : decide (90 < (bt x4_9 x33_4)) = true := decide_eq_true c48
                                  clear c48
                                  by_cases c49 : (bt x4_9 x33_4) < 48
                                  · rw [if_pos c49] at H
                                    have c49b0 : decide ((bt x4_9 x33_4) < 48) = true := decide_eq_true c49
                                    clear c49
                                    by_cases c50 : (bt x4_9 x33_4) = 46
                                    · rw [if_pos c50] at H
                                      have c50b0 : ((bt x4_9 x33_4) == 46) = true := beq_iff_eq.mpr c50
                                      have c50b1 : ((bt x4_9 x33_4) != 46) = false := bne_eq_false_iff_eq.mpr c50
                                      clear c50
                                      have H' := Aside0.mk H
                                      clear H
                                      have p18 : 0 ≤ (x33_4 : Int) := of_decide_eq_true (by first | (with_reducible assumption) | assumption)
                                      have q18 : x33_4 < (x4_9.size : Int) := of_decide_eq_true (by first | (with_reducible assumption) | assumption)
                                      have hx18 := bt_at x4_9 x33_4
                                      replace p18 := eq_true p18
                                      replace q18 := eq_true q18
                                      go_wp2
                                      go_roundg k4
                                      case measure => have := HJ1.out; have := HJ4.out; have := HJ9.out; have := HK4.out; omega
                                      case rel => exact ⟨(wrap64 (x33_4 + 1)), (by first | rfl | (simp; done) | (simp [*]; done)), H', ⟨by have := HJ1.out; have := HJ4.out; have := HJ9.out; have := HK4.out; omega⟩, by repeat (first | exact Drawn0.refl _ | apply Drawn0.step)⟩
                                    · rw [if_neg c50] at H
                                      have c50b0 : ((bt x4_9 x33_4) == 46) = false := beq_eq_false_iff_ne.mpr c50
                                      have c50b1 : ((bt x4_9 x33_4) != 46) = true := bne_iff_ne.mpr c50
                                      by_cases c51 : (bt x4_9 x33_4) = 45
                                      · rw [if_pos c51] at H
                                        have c51b0 : ((bt x4_9 x33_4) == 45) = true := beq_iff_eq.mpr c51
                                        have c51b1 : ((bt x4_9 x33_4) != 45) = false := bne_eq_false_iff_eq.mpr c51
                                        clear c51
                                        have H' := Aside0.mk H
                                        clear H
                                        have p18 : 0 ≤ (x33_4 : Int) := of_decide_eq_true (by first | (with_reducible assumption) | assumption)
                                        have q18 : x33_4 < (x4_9.size : Int) := of_decide_eq_true (by first | (with_reducible assumption) | assumption)
                                        have hx18 := bt_at x4_9 x33_4
                                        replace p18 := eq_true p18
                                        replace q18 := eq_true q18
                                        go_wp2
                                        go_roundg k4
                                        case measure => have := HJ1.out; have := HJ4.out; have := HJ9.out; have := HK4.out; omega
                                        case rel => exact ⟨(wrap64 (x33_4 + 1)), (by first | rfl | (simp; done) | (simp [*]; done)), H', ⟨by have := HJ1.out; have := HJ4.out; have := HJ9.out; have := HK4.out; omega⟩, by repeat (first | exact Drawn0.refl _ | apply Drawn0.step)⟩
                                      · rw [if_neg c51] at H
                                        have c51b0 : ((bt x4_9 x33_4) == 45) = false := beq_eq_false_iff_ne.mpr c51
                                        have c51b1 : ((bt x4_9 x33_4) != 45) = true := bne_iff_ne.mpr c51
                                        by_cases c52 : (bt x4_9 x33_4) = 95
                                        · rw [if_pos c52] at H
                                          have c52b0 : ((bt x4_9 x33_4) == 95) = true := beq_iff_eq.mpr c52
                                          have c52b1 : ((bt x4_9 x33_4) != 95) = false := bne_eq_false_iff_eq.mpr c52
                                          clear c52
                                          have H' := Aside0.mk H
                                          clear H
                                          have p18 : 0 ≤ (x33_4 : Int) := of_decide_eq_true (by first | (with_reducible assumption) | assumption)
                                          have q18 : x33_4 < (x4_9.size : Int) := of_decide_eq_true (by first | (with_reducible assumption) | assumption)
                                          have hx18 := bt_at x4_9 x33_4
                                          replace p18 := eq_true p18
                                          replace q18 := eq_true q18
                                          go_wp2
                                          go_roundg k4
                                          case measure => have := HJ1.out; have := HJ4.out; have := HJ9.out; have := HK4.out; omega
                                          case rel => exact ⟨(wrap64 (x33_4 + 1)), (by first | rfl | (simp; done) | (simp [*]; done)), H', ⟨by have := HJ1.out; have := HJ4.out; have := HJ9.out; have := HK4.out; omega⟩, by repeat (first | exact Drawn0.refl _ | apply Drawn0.step)⟩
                                        · rw [if_neg c52] at H
                                          have c52b0 : ((bt x4_9 x33_4) == 95) = false := beq_eq_false_iff_ne.mpr c52
                                          have c52b1 : ((bt x4_9 x33_4) != 95) = true := bne_iff_ne.mpr c52
                                          simp only [Option.some.injEq, Prod.mk.injEq] at H
                                          obtain ⟨rfl, rfl⟩ := H
                                          have p18 : 0 ≤ (x33_4 : Int) := of_decide_eq_true (by first | (with_reducible assumption) | assumption)
                                          have q18 : x33_4 < (x4_9.size : Int) := of_decide_eq_true (by first | (with_reducible assumption) | assumption)
                                          have hx18 := bt_at x4_9 x33_4
                                          replace p18 := eq_true p18
                                          replace q18 := eq_true q18
                                          go_wp2
                                          go_ret2
                                          exact ⟨by first | rfl | (simp; done) | (simp [*]; done), by repeat (first | exact Drawn0.refl _ | apply Drawn0.step)⟩
                                  · rw [if_neg c49] at H
                                    have c49b0 : decide ((bt x4_9 x33_4) < 48) = false := decide_eq_false c49
                                    clear c49
                                    by_cases c53 : (bt x4_9 x33_4) > 57
                                    · rw [if_pos c53] at H
                                      have c53b0 : decide (57 < (bt x4_9 x33_4)) = true := decide_eq_true c53
                                      clear c53
                                      by_cases c54 : (bt x4_9 x33_4) = 46
                                      · rw [if_pos c54] at H
                                        have c54b0 : ((bt x4_9 x33_4) == 46) = true := beq_iff_eq.mpr c54
                                        have c54b1 : ((bt x4_9 x33_4) != 46) = false := bne_eq_false_iff_eq.mpr c54
                                        clear c54
                                        have H' := Aside0.mk H
                                        clear H
                                        have p18 : 0 ≤ (x33_4 : Int) := of_decide_eq_true (by first | (with_reducible assumption) | assumption)
                                        have q18 : x33_4 < (x4_9.size : Int) := of_decide_eq_true (by first | (with_reducible assumption) | assumption)
                                        have hx18 := bt_at x4_9 x33_4
                                        replace p18 := eq_true p18
                                        replace q18 := eq_true q18
                                        go_wp2
                                        go_roundg k4
                                        case measure => have := HJ1.out; have := HJ4.out; have := HJ9.out; have := HK4.out; omega
                                        case rel => exact ⟨(wrap64 (x33_4 + 1)), (by first | rfl | (simp; done) | (simp [*]; done)), H', ⟨by have := HJ1.out; have := HJ4.out; have := HJ9.out; have := HK4.out; omega⟩, by repeat (first | exact Drawn0.refl _ | apply Drawn0.step)⟩
                                      · rw [if_neg c54] at H
                                        have c54b0 : ((bt x4_9 x33_4) == 46) = false := beq_eq_false_iff_ne.mpr c54
                                        have c54b1 : ((bt x4_9 x33_4) != 46) = true := bne_iff_ne.mpr c54
                                        by_cases c55 : (bt x4_9 x33_4) = 45
                                        · rw [if_pos c55] at H
                                          have c55b0 : ((bt x4_9 x33_4) == 45) = true := beq_iff_eq.mpr c55
                                          have c55b1 : ((bt x4_9 x33_4) != 45) = false := bne_eq_false_iff_eq.mpr c55
                                          clear c55
                                          have H' := Aside0.mk H
                                          clear H
                                          have p18 : 0 ≤ (x33_4 : Int) := of_decide_eq_true (by first | (with_reducible assumption) | assumption)
                                          have q18 : x33_4 < (x4_9.size : Int) := of_decide_eq_true (by first | (with_reducible assumption) | assumption)
                                          have hx18 := bt_at x4_9 x33_4
                                          replace p18 := eq_true p18
                                          replace q18 := eq_true q18
                                          go_wp2
                                          go_roundg k4
                                          case measure => have := HJ1.out; have := HJ4.out; have := HJ9.out; have := HK4.out; omega
                                          case rel => exact ⟨(wrap64 (x33_4 + 1)), (by first | rfl | (simp; done) | (simp [*]; done)), H', ⟨by have := HJ1.out; have := HJ4.out; have := HJ9.out; have := HK4.out; omega⟩, by repeat (first | exact Drawn0.refl _ | apply Drawn0.step)⟩
                                        · rw [if_neg c55] at H
                                          have c55b0 : ((bt x4_9 x33_4) == 45) = false := beq_eq_false_iff_ne.mpr c55
                                          have c55b1 : ((bt x4_9 x33_4) != 45) = true := bne_iff_ne.mpr c55
                                          by_cases c56 : (bt x4_9 x33_4) = 95
                                          · rw [if_pos c56] at H
                                            have c56b0 : ((bt x4_9 x33_4) == 95) = true := beq_iff_eq.mpr c56
                                            have c56b1 : ((bt x4_9 x33_4) != 95) = false := bne_eq_false_iff_eq.mpr c56
                                            clear c56
                                            have H' := Aside0.mk H
                                            clear H
                                            have p18 : 0 ≤ (x33_4 : Int) := of_decide_eq_true (by first | (with_reducible assumption) | assumption)
                                            have q18 : x33_4 < (x4_9.size : Int) := of_decide_eq_true (by first | (with_reducible assumption) | assumption)
                                            have hx18 := bt_at x4_9 x33_4
                                            replace p18 := eq_true p18
                                            replace q18 := eq_true q18
                                            go_wp2
                                            go_roundg k4
                                            case measure => have := HJ1.out; have := HJ4.out; have := HJ9.out; have := HK4.out; omega
                                            case rel => exact ⟨(wrap64 (x33_4 + 1)), (by first | rfl | (simp; done) | (simp [*]; done)), H', ⟨by have := HJ1.out; have := HJ4.out; have := HJ9.out; have := HK4.out; omega⟩, by repeat (first | exact Drawn0.refl _ | apply Drawn0.step)⟩
                                          · rw [if_neg c56] at H
                                            have c56b0 : ((bt x4_9 x33_4) == 95) = false := beq_eq_false_iff_ne.mpr c56
                                            have c56b1 : ((bt x4_9 x33_4) != 95) = true := bne_iff_ne.mpr c56
                                            simp only [Option.some.injEq, Prod.mk.injEq] at H
                                            obtain ⟨rfl, rfl⟩ := H
                                            have p18 : 0 ≤ (x33_4 : Int) := of_decide_eq_true (by first | (with_reducible assumption) | assumption)
                                            have q18 : x33_4 < (x4_9.size : Int) := of_decide_eq_true (by first | (with_reducible assumption) | assumption)
                                            have hx18 := bt_at x4_9 x33_4
                                            replace p18 := eq_true p18
                                            replace q18 := eq_true q18
                                            go_wp2
                                            go_ret2
                                            exact ⟨by first | rfl | (simp; done) | (simp [*]; done), by repeat (first | exact Drawn0.refl _ | apply Drawn0.step)⟩
                                    · rw [if_neg c53] at H
                                      have c53b0 : decide (57 < (bt x4_9 x33_4)) = false := decide_eq_false c53
                                      clear c53
                                      have H' := Aside0.mk H
                                      clear H
                                      have p18 : 0 ≤ (x33_4 : Int) := of_decide_eq_true (by first | (with_reducible assumption) | assumption)
                                      have q18 : x33_4 < (x4_9.size : Int) := of_decide_eq_true (by first | (with_reducible assumption) | assumption)
                                      have hx18 := bt_at x4_9 x33_4
                                      replace p18 := eq_true p18
                                      replace q18 := eq_true q18
                                      go_wp2
                                      go_roundg k4
                                      case measure => have := HJ1.out; have := HJ4.out; have := HJ9.out; have := HK4.out; omega
                                      case rel => exact ⟨(wrap64 (x33_4 + 1)), (by first | rfl | (simp; done) | (simp [*]; done)), H', ⟨by have := HJ1.out; have := HJ4.out; have := HJ9.out; have := HK4.out; omega⟩, by repeat (first | exact Drawn0.refl _ | apply Drawn0.step)⟩
                                · rw [if_neg c48] at H
                                  have c48b0 : decide (90 < (bt x4_9 x33_4)) = false := decide_eq_false c48
                                  clear c48
                                  have H' := Aside0.mk H
                                  clear H
                                  have p18 : 0 ≤ (x33_4 : Int) := of_decide_eq_true (by first | (with_reducible assumption) | assumption)
                                  have q18 : x33_4 < (x4_9.size : Int) := of_decide_eq_true (by first | (with_reducible assumption) | assumption)
                                  have hx18 := bt_at x4_9 x33_4
                                  replace p18 := eq_true p18
                                  replace q18 := eq_true q18
                                  go_wp2
                                  go_roundg k4
                                  case measure => have := HJ1.out; have := HJ4.out; have := HJ9.out; have := HK4.out; omega
                                  case rel => exact ⟨(wrap64 (x33_4 + 1)), (by first | rfl | (simp; done) | (simp [*]; done)), H', ⟨by have := HJ1.out; have := HJ4.out; have := HJ9.out; have := HK4.out; omega⟩, by repeat (first | exact Drawn0.refl _ | apply Drawn0.step)⟩
                            · rw [if_neg c38] at H
                              have c38b0 : decide (122 < (bt x4_9 x33_4)) = false := decide_eq_false c38
                              clear c38
                              have H' := Aside0.mk H
                              clear H
                              have p18 : 0 ≤ (x33_4 : Int) := of_decide_eq_true (by first | (with_reducible assumption) | assumption)
                              have q18 : x33_4 < (x4_9.size : Int) := of_decide_eq_true (by first | (with_reducible assumption) | assumption)
                              have hx18 := bt_at x4_9 x33_4
                              replace p18 := eq_true p18
                              replace q18 := eq_true q18
                              go_wp2
                              go_roundg k4
                              case measure => have := HJ1.out; have := HJ4.out; have := HJ9.out; have := HK4.out; omega
                              case rel => exact ⟨(wrap64 (x33_4 + 1)), (by first | rfl | (simp; done) | (simp [*]; done)), H', ⟨by have := HJ1.out; have := HJ4.out; have := HJ9.out; have := HK4.out; omega⟩, by repeat (first | exact Drawn0.refl _ | apply Drawn0.step)⟩
                        · rw [if_neg c17] at H
                          exact absurd H (by simp)
                      · rw [if_neg c16] at H
                        exact absurd H (by simp)
                    · rw [if_neg c15] at H
                      have c15b0 : decide (x33_4 < (x4_9.size : Int)) = false := decide_eq_false c15
                      clear c15
                      simp only [Option.some.injEq, Prod.mk.injEq] at H
                      obtain ⟨rfl, rfl⟩ := H
                      go_wp2
                      go_ret2
                      exact ⟨by first | rfl | (simp; done) | (simp [*]; done), by repeat (first | exact Drawn0.refl _ | apply Drawn0.step)⟩

end Go.Proofs.Ytnbhledkdkchlaa.PAll
