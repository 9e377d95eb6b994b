/- The Lean function of spec_ErrorKind and its contract: the Go function comes to exactly what the Lean function answers (laid by the kit's print program). -/
import Derived.Test.YtkogipaaioibaaaGreatPAllx0
import Derived.Test.YtkogipaaioibaaaGreatPspecbegins
import Derived.Test.YtkogipaaioibaaaGreatPspecinLine
import Derived.Test.YtkogipaaioibaaaGreatPspecholds
import Derived.Test.YtkogipaaioibaaaGreatPspecwords
import Derived.Test.YtkogipaaioibaaaGreatPspeckindOf
namespace Go.Proofs.YtkogipaaioibaaaGreat.PAll
open Go.RowKit Go.Proofs.YtkogipaaioibaaaGreatW.PrintWords Go.Proofs.YtkogipaaioibaaaGreatW.PrintLast Go.Proofs.YtkogipaaioibaaaGreatW.PrintMore
attribute [local go_sem] max2_int min2_int max_two min_two max_three min_three max_four min_four   -- for this text's walks alone
set_option linter.unusedVariables false
set_option linter.unusedSimpArgs false


/-! ### spec_ErrorKind: function 4 -/
mutual
def spec_ErrorKind.j0 : Nat → ByteArray → Bool → Option (ByteArray × ByteArray × Int)
  | 0, _, _ => none
  | k + 1, x0, x13 => if x13 = true then (some ((⟨#[]⟩ : ByteArray), (⟨#[]⟩ : ByteArray), 2)) else ((spec_holds.f k x0 (⟨#[117, 110, 97, 117, 116, 104, 101, 110, 116, 105, 99, 97, 116, 101, 100]⟩ : ByteArray)).bind fun t109 => (if t109 = true then (spec_ErrorKind.j1 k x0 true) else (if 1 ≤ (x0.size : Int) then ((spec_holds.f k (x0.extract 1 x0.size) (⟨#[45, 82, 69, 65, 68, 79, 78, 76, 89]⟩ : ByteArray)).bind fun t110 => (spec_ErrorKind.j1 k x0 t110)) else (none))))
def spec_ErrorKind.j1 : Nat → ByteArray → Bool → Option (ByteArray × ByteArray × Int)
  | 0, _, _ => none
  | k + 1, x0, x20 => if x20 = true then (some ((⟨#[]⟩ : ByteArray), (⟨#[]⟩ : ByteArray), 2)) else ((spec_begins.f x0 (⟨#[45, 69, 82, 82, 32, 109, 97, 120, 32, 110, 117, 109, 98, 101, 114, 32, 111, 102, 32, 99, 108, 105, 101, 110, 116, 115, 32, 114, 101, 97, 99, 104, 101, 100]⟩ : ByteArray)).bind fun t111 => (if t111 = true then (some ((⟨#[77, 97, 120, 67, 108, 105, 101, 110, 116, 115]⟩ : ByteArray), (⟨#[]⟩ : ByteArray), 1)) else (if 1 ≤ (x0.size : Int) then ((spec_words.f k (x0.extract 1 x0.size)).bind fun t112 => (if 0 < (t112.length : Int) then ((spec_kindOf.f k (rdOf ByteArray.empty t112 0)).bind fun t116 => (if t116.toList = ([] : List UInt8) then (spec_ErrorKind.j2 k t116 t112 true) else (spec_ErrorKind.j2 k t116 t112 ((t112.length : Int) == 1)))) else (none))) else (none))))
def spec_ErrorKind.j2 : Nat → ByteArray → List ByteArray → Bool → Option (ByteArray × ByteArray × Int)
  | 0, _, _, _ => none
  | k + 1, x2, x5, x30 => if x30 = true then (some ((⟨#[]⟩ : ByteArray), (⟨#[]⟩ : ByteArray), 1)) else (if x2.toList = ([77, 111, 118, 101, 100] : List UInt8) then (spec_ErrorKind.j3 k x2 x5 false) else (spec_ErrorKind.j3 k x2 x5 (x2.toList != ([65, 115, 107] : List UInt8))))
def spec_ErrorKind.j3 : Nat → ByteArray → List ByteArray → Bool → Option (ByteArray × ByteArray × Int)
  | 0, _, _, _ => none
  | k + 1, x2, x5, x38 => if x38 = true then (some (x2, (⟨#[]⟩ : ByteArray), 1)) else (if (x5.length : Int) = 3 then (if 1 < (x5.length : Int) then (if (rdOf ByteArray.empty x5 1).toList = ([] : List UInt8) then (some ((⟨#[]⟩ : ByteArray), (⟨#[]⟩ : ByteArray), 2)) else (if 2 < (x5.length : Int) then (if (rdOf ByteArray.empty x5 2).toList = ([] : List UInt8) then (some ((⟨#[]⟩ : ByteArray), (⟨#[]⟩ : ByteArray), 2)) else (some (x2, rdOf ByteArray.empty x5 2, 1))) else (none))) else (none)) else (some ((⟨#[]⟩ : ByteArray), (⟨#[]⟩ : ByteArray), 2)))
end
def spec_ErrorKind.f (k : Nat) (a0 : ByteArray) : Option (ByteArray × ByteArray × Int) := (spec_begins.f a0 (⟨#[45]⟩ : ByteArray)).bind fun t107 => (if t107 = true then ((spec_inLine.f k a0).bind fun t108 => (spec_ErrorKind.j0 k a0 (!t108))) else (spec_ErrorKind.j0 k a0 true))
theorem spec_ErrorKind.mono_l : ∀ k, (∀ y0 y1, LeO (spec_ErrorKind.j0 k y0 y1) (spec_ErrorKind.j0 (k + 1) y0 y1)) ∧ (∀ y0 y1, LeO (spec_ErrorKind.j1 k y0 y1) (spec_ErrorKind.j1 (k + 1) y0 y1)) ∧ (∀ y0 y1 y2, LeO (spec_ErrorKind.j2 k y0 y1 y2) (spec_ErrorKind.j2 (k + 1) y0 y1 y2)) ∧ (∀ y0 y1 y2, LeO (spec_ErrorKind.j3 k y0 y1 y2) (spec_ErrorKind.j3 (k + 1) y0 y1 y2))
  | 0 => ⟨fun _ _ r h => by simp [spec_ErrorKind.j0] at h, fun _ _ r h => by simp [spec_ErrorKind.j1] at h, fun _ _ _ r h => by simp [spec_ErrorKind.j2] at h, fun _ _ _ r h => by simp [spec_ErrorKind.j3] at h⟩
  | k + 1 => by
    obtain ⟨ih0, ih1, ih2, ih3⟩ := spec_ErrorKind.mono_l k
    refine ⟨?_, ?_, ?_, ?_⟩
    · intro y0 y1
      unfold spec_ErrorKind.j0
      repeat' first
      | (with_reducible exact ih0 _ _)
      | (with_reducible exact ih1 _ _)
      | (with_reducible exact ih2 _ _ _)
      | (with_reducible exact ih3 _ _ _)
      | (with_reducible exact spec_holds.mono _ _ _)
      | (with_reducible exact spec_inLine.mono _ _)
      | (with_reducible exact spec_kindOf.mono _ _)
      | (with_reducible exact spec_words.mono _ _)
      | (with_reducible exact LeO.refl _)
      | (with_reducible exact LeO.none _)
      | (with_reducible refine LeO.ite ?_ ?_)
      | (with_reducible refine LeO.bind ?_ (fun _ => ?_))
      | exact ih0 _ _
      | exact ih1 _ _
      | exact ih2 _ _ _
      | exact ih3 _ _ _
      | exact spec_holds.mono _ _ _
      | exact spec_inLine.mono _ _
      | exact spec_kindOf.mono _ _
      | exact spec_words.mono _ _
      | exact LeO.none _
      | refine LeO.ite ?_ ?_
      | refine LeO.bind ?_ (fun _ => ?_)
    · intro y0 y1
      unfold spec_ErrorKind.j1
      repeat' first
      | (with_reducible exact ih0 _ _)
      | (with_reducible exact ih1 _ _)
      | (with_reducible exact ih2 _ _ _)
      | (with_reducible exact ih3 _ _ _)
      | (with_reducible exact spec_holds.mono _ _ _)
      | (with_reducible exact spec_inLine.mono _ _)
      | (with_reducible exact spec_kindOf.mono _ _)
      | (with_reducible exact spec_words.mono _ _)
      | (with_reducible exact LeO.refl _)
      | (with_reducible exact LeO.none _)
      | (with_reducible refine LeO.ite ?_ ?_)
      | (with_reducible refine LeO.bind ?_ (fun _ => ?_))
      | exact ih0 _ _
      | exact ih1 _ _
      | exact ih2 _ _ _
      | exact ih3 _ _ _
      | exact spec_holds.mono _ _ _
      | exact spec_inLine.mono _ _
      | exact spec_kindOf.mono _ _
      | exact spec_words.mono _ _
      | exact LeO.none _
      | refine LeO.ite ?_ ?_
      | refine LeO.bind ?_ (fun _ => ?_)
    · intro y0 y1 y2
      unfold spec_ErrorKind.j2
      repeat' first
      | (with_reducible exact ih0 _ _)
      | (with_reducible exact ih1 _ _)
      | (with_reducible exact ih2 _ _ _)
      | (with_reducible exact ih3 _ _ _)
      | (with_reducible exact spec_holds.mono _ _ _)
      | (with_reducible exact spec_inLine.mono _ _)
      | (with_reducible exact spec_kindOf.mono _ _)
      | (with_reducible exact spec_words.mono _ _)
      | (with_reducible exact LeO.refl _)
      | (with_reducible exact LeO.none _)
      | (with_reducible refine LeO.ite ?_ ?_)
      | (with_reducible refine LeO.bind ?_ (fun _ => ?_))
      | exact ih0 _ _
      | exact ih1 _ _
      | exact ih2 _ _ _
      | exact ih3 _ _ _
      | exact spec_holds.mono _ _ _
      | exact spec_inLine.mono _ _
      | exact spec_kindOf.mono _ _
      | exact spec_words.mono _ _
      | exact LeO.none _
      | refine LeO.ite ?_ ?_
      | refine LeO.bind ?_ (fun _ => ?_)
    · intro y0 y1 y2
      unfold spec_ErrorKind.j3
      repeat' first
      | (with_reducible exact ih0 _ _)
      | (with_reducible exact ih1 _ _)
      | (with_reducible exact ih2 _ _ _)
      | (with_reducible exact ih3 _ _ _)
      | (with_reducible exact spec_holds.mono _ _ _)
      | (with_reducible exact spec_inLine.mono _ _)
      | (with_reducible exact spec_kindOf.mono _ _)
      | (with_reducible exact spec_words.mono _ _)
      | (with_reducible exact LeO.refl _)
      | (with_reducible exact LeO.none _)
      | (with_reducible refine LeO.ite ?_ ?_)
      | (with_reducible refine LeO.bind ?_ (fun _ => ?_))
      | exact ih0 _ _
      | exact ih1 _ _
      | exact ih2 _ _ _
      | exact ih3 _ _ _
      | exact spec_holds.mono _ _ _
      | exact spec_inLine.mono _ _
      | exact spec_kindOf.mono _ _
      | exact spec_words.mono _ _
      | exact LeO.none _
      | refine LeO.ite ?_ ?_
      | refine LeO.bind ?_ (fun _ => ?_)
theorem spec_ErrorKind.mono : ∀ a0 k, LeO (spec_ErrorKind.f k a0) (spec_ErrorKind.f (k + 1) a0) := by
  intro a0 k
  obtain ⟨ih0, ih1, ih2, ih3⟩ := spec_ErrorKind.mono_l k
  unfold spec_ErrorKind.f
  repeat' first
      | (with_reducible exact ih0 _ _)
      | (with_reducible exact ih1 _ _)
      | (with_reducible exact ih2 _ _ _)
      | (with_reducible exact ih3 _ _ _)
      | (with_reducible exact spec_holds.mono _ _ _)
      | (with_reducible exact spec_inLine.mono _ _)
      | (with_reducible exact spec_kindOf.mono _ _)
      | (with_reducible exact spec_words.mono _ _)
      | (with_reducible exact LeO.refl _)
      | (with_reducible exact LeO.none _)
      | (with_reducible refine LeO.ite ?_ ?_)
      | (with_reducible refine LeO.bind ?_ (fun _ => ?_))
      | exact ih0 _ _
      | exact ih1 _ _
      | exact ih2 _ _ _
      | exact ih3 _ _ _
      | exact spec_holds.mono _ _ _
      | exact spec_inLine.mono _ _
      | exact spec_kindOf.mono _ _
      | exact spec_words.mono _ _
      | exact LeO.none _
      | refine LeO.ite ?_ ?_
      | refine LeO.bind ?_ (fun _ => ?_)
set_option maxHeartbeats 8000000 in
set_option maxRecDepth 100000 in
theorem spec_ErrorKind.calls (k : Nat) (a0 : ByteArray) (r1 : ByteArray) (r2 : ByteArray) (r3 : Int) (w : World) (h : spec_ErrorKind.f k a0 = some (r1, r2, r3)) :
    Calls Tryz.prog 4 #[.string a0] w fun e w' => e = .returned (.tuple #[.string r1, .string r2, .int .i64 r3]) ∧ Below w.heap.size w w' := by
  have HB := Aside0.mk (Below.refl w.heap.size w)
  have H : ((spec_begins.f a0 (⟨#[45]⟩ : ByteArray)).bind fun t107 => (if t107 = true then ((spec_inLine.f k a0).bind fun t108 => (spec_ErrorKind.j0 k a0 (!t108))) else (spec_ErrorKind.j0 k a0 true))) = some (r1, r2, r3) := h
  clear h
  have HC2 := Aside0.mk H
  clear H
  go_enter Tryz.func4, Tryz.ntmps4
  go_upto_region 1 with (fail)
  repeat (go_quiet (fail); go_upto_region 1 with (fail))
  go_cut [13] (fun v13 wc => ∃ (kq : Nat) (x13_1 : Bool), v13 = .bool x13_1 ∧ Aside0 (spec_ErrorKind.j0 kq a0 x13_1 = some (r1, r2, r3)) ∧ Aside0 (kq ≤ k) ∧ Aside0 (Below w.heap.size w wc))
  case first =>
    have H := HC2.out
    clear HC2
    replace H := Option.bind_eq_some_iff.mp H
    obtain ⟨t107, A30, H⟩ := H
    replace H : (if t107 = true then ((spec_inLine.f k a0).bind fun t108 => (spec_ErrorKind.j0 k a0 (!t108))) else (spec_ErrorKind.j0 k a0 true)) = some (r1, r2, r3) := H
    have A3 := Aside0.mk A30
    clear A30
    by_cases c4 : t107 = true
    · subst c4
      have H1 : ((spec_inLine.f k a0).bind fun t108 => (spec_ErrorKind.j0 k a0 (!t108))) = some (r1, r2, r3) := by rw [if_pos rfl] at H; exact H
      clear H
      have H := H1
      clear H1
      replace H := Option.bind_eq_some_iff.mp H
      obtain ⟨t108, A50, H⟩ := H
      replace H : (spec_ErrorKind.j0 k a0 (!t108)) = some (r1, r2, r3) := H
      have A5 := Aside0.mk A50
      clear A50
      have H' := Aside0.mk H
      clear H
      go_wp2_with (first | (go_at_call 8; (with_reducible refine (spec_begins.calls a0 (⟨#[45]⟩ : ByteArray) true _ A3.out).mono ?_); rintro e w' ⟨rfl, ⟨nd, rfl⟩⟩; (try first | exact ⟨rfl, _, World.drewN_drewN _ _ _⟩ | exact ⟨rfl, _, Eq.trans (World.drewN_drewN _ _ _) (congrArg (World.drewN _) (Nat.add_assoc _ _ _))⟩)) | (go_at_call 9; (with_reducible refine (spec_inLine.calls k a0 t108 _ A5.out).mono ?_); rintro e w' ⟨rfl, ⟨nd, rfl⟩⟩; (try first | exact ⟨rfl, _, World.drewN_drewN _ _ _⟩ | exact ⟨rfl, _, Eq.trans (World.drewN_drewN _ _ _) (congrArg (World.drewN _) (Nat.add_assoc _ _ _))⟩)))
      repeat (go_quiet (first | (go_at_call 8; (with_reducible refine (spec_begins.calls a0 (⟨#[45]⟩ : ByteArray) true _ A3.out).mono ?_); rintro e w' ⟨rfl, ⟨nd, rfl⟩⟩; (try first | exact ⟨rfl, _, World.drewN_drewN _ _ _⟩ | exact ⟨rfl, _, Eq.trans (World.drewN_drewN _ _ _) (congrArg (World.drewN _) (Nat.add_assoc _ _ _))⟩)) | (go_at_call 9; (with_reducible refine (spec_inLine.calls k a0 t108 _ A5.out).mono ?_); rintro e w' ⟨rfl, ⟨nd, rfl⟩⟩; (try first | exact ⟨rfl, _, World.drewN_drewN _ _ _⟩ | exact ⟨rfl, _, Eq.trans (World.drewN_drewN _ _ _) (congrArg (World.drewN _) (Nat.add_assoc _ _ _))⟩))); try go_wp2_with (first | (go_at_call 8; (with_reducible refine (spec_begins.calls a0 (⟨#[45]⟩ : ByteArray) true _ A3.out).mono ?_); rintro e w' ⟨rfl, ⟨nd, rfl⟩⟩; (try first | exact ⟨rfl, _, World.drewN_drewN _ _ _⟩ | exact ⟨rfl, _, Eq.trans (World.drewN_drewN _ _ _) (congrArg (World.drewN _) (Nat.add_assoc _ _ _))⟩)) | (go_at_call 9; (with_reducible refine (spec_inLine.calls k a0 t108 _ A5.out).mono ?_); rintro e w' ⟨rfl, ⟨nd, rfl⟩⟩; (try first | exact ⟨rfl, _, World.drewN_drewN _ _ _⟩ | exact ⟨rfl, _, Eq.trans (World.drewN_drewN _ _ _) (congrArg (World.drewN _) (Nat.add_assoc _ _ _))⟩))))
      go_meet
      case rel => exact ⟨_, (!t108), (by first | rfl | (simp; done) | (simp [*]; done)), H', ⟨by first | omega | exact Nat.le_refl _⟩, ⟨by repeat (first | (with_reducible first | exact HB.out | apply below_alloc | apply pw_below_drewN | apply below_drew1) | exact HB.out)⟩⟩
    · replace c4 := Bool.eq_false_iff.mpr c4
      subst c4
      have H1 : (spec_ErrorKind.j0 k a0 true) = some (r1, r2, r3) := by rw [if_neg (show ¬ (false = true) by decide)] at H; exact H
      clear H
      have H := H1
      clear H1
      have H' := Aside0.mk H
      clear H
      go_wp2_with (first | (go_at_call 8; (with_reducible refine (spec_begins.calls a0 (⟨#[45]⟩ : ByteArray) false _ A3.out).mono ?_); rintro e w' ⟨rfl, ⟨nd, rfl⟩⟩; (try first | exact ⟨rfl, _, World.drewN_drewN _ _ _⟩ | exact ⟨rfl, _, Eq.trans (World.drewN_drewN _ _ _) (congrArg (World.drewN _) (Nat.add_assoc _ _ _))⟩)))
      repeat (go_quiet (first | (go_at_call 8; (with_reducible refine (spec_begins.calls a0 (⟨#[45]⟩ : ByteArray) false _ A3.out).mono ?_); rintro e w' ⟨rfl, ⟨nd, rfl⟩⟩; (try first | exact ⟨rfl, _, World.drewN_drewN _ _ _⟩ | exact ⟨rfl, _, Eq.trans (World.drewN_drewN _ _ _) (congrArg (World.drewN _) (Nat.add_assoc _ _ _))⟩))); try go_wp2_with (first | (go_at_call 8; (with_reducible refine (spec_begins.calls a0 (⟨#[45]⟩ : ByteArray) false _ A3.out).mono ?_); rintro e w' ⟨rfl, ⟨nd, rfl⟩⟩; (try first | exact ⟨rfl, _, World.drewN_drewN _ _ _⟩ | exact ⟨rfl, _, Eq.trans (World.drewN_drewN _ _ _) (congrArg (World.drewN _) (Nat.add_assoc _ _ _))⟩))))
      go_meet
      case rel => exact ⟨_, (true), (by first | rfl | (simp; done) | (simp [*]; done)), H', ⟨by first | omega | exact Nat.le_refl _⟩, ⟨by repeat (first | (with_reducible first | exact HB.out | apply below_alloc | apply pw_below_drewN | apply below_drew1) | exact HB.out)⟩⟩
  case rest =>
    clear HC2
    try clear p2
    try clear c4
    obtain ⟨kq, x13_1, rfl, HA, HJ1, HB⟩ := hcut
    cases kq with
    | zero => exact absurd HA.out (by simp [spec_ErrorKind.j0])
    | succ kj1 =>
      have H := HA.out
      clear HA
      simp only [spec_ErrorKind.j0] at H
      by_cases c6 : x13_1 = true
      · subst c6
        have H1 : (some ((⟨#[]⟩ : ByteArray), (⟨#[]⟩ : ByteArray), 2)) = some (r1, r2, r3) := by rw [if_pos rfl] at H; exact H
        clear H
        have H := H1
        clear H1
        simp only [Option.some.injEq, Prod.mk.injEq] at H
        obtain ⟨rfl, rfl, rfl⟩ := H
        go_wp2
        repeat (go_quiet (fail); try go_wp2)
        go_ret3
        exact ⟨by first | rfl | (simp [errW_none, errW_some] <;> rfl) | (simp [*, errW_none, errW_some] <;> rfl), by repeat (first | (with_reducible first | exact HB.out | apply below_alloc | apply pw_below_drewN | apply below_drew1) | exact HB.out)⟩
      · replace c6 := Bool.eq_false_iff.mpr c6
        subst c6
        have H1 : ((spec_holds.f kj1 a0 (⟨#[117, 110, 97, 117, 116, 104, 101, 110, 116, 105, 99, 97, 116, 101, 100]⟩ : ByteArray)).bind fun t109 => (if t109 = true then (spec_ErrorKind.j1 kj1 a0 true) else (if 1 ≤ (a0.size : Int) then ((spec_holds.f kj1 (a0.extract 1 a0.size) (⟨#[45, 82, 69, 65, 68, 79, 78, 76, 89]⟩ : ByteArray)).bind fun t110 => (spec_ErrorKind.j1 kj1 a0 t110)) else (none)))) = some (r1, r2, r3) := by rw [if_neg (show ¬ (false = true) by decide)] at H; exact H
        clear H
        have H := H1
        clear H1
        have HC7 := Aside0.mk H
        clear H
        go_upto_region 3 with (fail)
        repeat (go_quiet (fail); go_upto_region 3 with (fail))
        go_cut [20] (fun v20 wc => ∃ (kq : Nat) (x20_6 : Bool), v20 = .bool x20_6 ∧ Aside0 (spec_ErrorKind.j1 kq a0 x20_6 = some (r1, r2, r3)) ∧ Aside0 (kq ≤ kj1) ∧ Aside0 (Below w.heap.size w wc))
        case first =>
          have H := HC7.out
          clear HC7
          replace H := Option.bind_eq_some_iff.mp H
          obtain ⟨t109, A80, H⟩ := H
          replace H : (if t109 = true then (spec_ErrorKind.j1 kj1 a0 true) else (if 1 ≤ (a0.size : Int) then ((spec_holds.f kj1 (a0.extract 1 a0.size) (⟨#[45, 82, 69, 65, 68, 79, 78, 76, 89]⟩ : ByteArray)).bind fun t110 => (spec_ErrorKind.j1 kj1 a0 t110)) else (none))) = some (r1, r2, r3) := H
          have A8 := Aside0.mk A80
          clear A80
          by_cases c9 : t109 = true
          · subst c9
            have H1 : (spec_ErrorKind.j1 kj1 a0 true) = some (r1, r2, r3) := by rw [if_pos rfl] at H; exact H
            clear H
            have H := H1
            clear H1
            have H' := Aside0.mk H
            clear H
            go_wp2_with (first | (go_at_call 10; (with_reducible refine (spec_holds.calls kj1 a0 (⟨#[117, 110, 97, 117, 116, 104, 101, 110, 116, 105, 99, 97, 116, 101, 100]⟩ : ByteArray) true _ A8.out).mono ?_); rintro e w' ⟨rfl, ⟨nd, rfl⟩⟩; (try first | exact ⟨rfl, _, World.drewN_drewN _ _ _⟩ | exact ⟨rfl, _, Eq.trans (World.drewN_drewN _ _ _) (congrArg (World.drewN _) (Nat.add_assoc _ _ _))⟩)))
            repeat (go_quiet (first | (go_at_call 10; (with_reducible refine (spec_holds.calls kj1 a0 (⟨#[117, 110, 97, 117, 116, 104, 101, 110, 116, 105, 99, 97, 116, 101, 100]⟩ : ByteArray) true _ A8.out).mono ?_); rintro e w' ⟨rfl, ⟨nd, rfl⟩⟩; (try first | exact ⟨rfl, _, World.drewN_drewN _ _ _⟩ | exact ⟨rfl, _, Eq.trans (World.drewN_drewN _ _ _) (congrArg (World.drewN _) (Nat.add_assoc _ _ _))⟩))); try go_wp2_with (first | (go_at_call 10; (with_reducible refine (spec_holds.calls kj1 a0 (⟨#[117, 110, 97, 117, 116, 104, 101, 110, 116, 105, 99, 97, 116, 101, 100]⟩ : ByteArray) true _ A8.out).mono ?_); rintro e w' ⟨rfl, ⟨nd, rfl⟩⟩; (try first | exact ⟨rfl, _, World.drewN_drewN _ _ _⟩ | exact ⟨rfl, _, Eq.trans (World.drewN_drewN _ _ _) (congrArg (World.drewN _) (Nat.add_assoc _ _ _))⟩))))
            go_meet
            case rel => exact ⟨_, (true), (by first | rfl | (simp; done) | (simp [*]; done)), H', ⟨by have := HJ1.out; first | omega | exact Nat.le_refl _⟩, ⟨by repeat (first | (with_reducible first | exact HB.out | apply below_alloc | apply pw_below_drewN | apply below_drew1) | exact HB.out)⟩⟩
          · replace c9 := Bool.eq_false_iff.mpr c9
            subst c9
            have H1 : (if 1 ≤ (a0.size : Int) then ((spec_holds.f kj1 (a0.extract 1 a0.size) (⟨#[45, 82, 69, 65, 68, 79, 78, 76, 89]⟩ : ByteArray)).bind fun t110 => (spec_ErrorKind.j1 kj1 a0 t110)) else (none)) = some (r1, r2, r3) := by rw [if_neg (show ¬ (false = true) by decide)] at H; exact H
            clear H
            have H := H1
            clear H1
            by_cases c10 : 1 ≤ (a0.size : Int)
            · rw [if_pos c10] at H
              have c10b0 := eq_true c10
              have c10b1 : decide (1 ≤ (a0.size : Int)) = true := decide_eq_true c10
              clear c10
              replace H := Option.bind_eq_some_iff.mp H
              obtain ⟨t110, A110, H⟩ := H
              replace H : (spec_ErrorKind.j1 kj1 a0 t110) = some (r1, r2, r3) := H
              have A11 := Aside0.mk A110
              clear A110
              have H' := Aside0.mk H
              clear H
              go_wp2_with (first | (go_at_call 10; (with_reducible refine (spec_holds.calls kj1 a0 (⟨#[117, 110, 97, 117, 116, 104, 101, 110, 116, 105, 99, 97, 116, 101, 100]⟩ : ByteArray) false _ A8.out).mono ?_); rintro e w' ⟨rfl, ⟨nd, rfl⟩⟩; (try first | exact ⟨rfl, _, World.drewN_drewN _ _ _⟩ | exact ⟨rfl, _, Eq.trans (World.drewN_drewN _ _ _) (congrArg (World.drewN _) (Nat.add_assoc _ _ _))⟩)) | (go_at_call 10; (with_reducible refine (spec_holds.calls kj1 (a0.extract 1 a0.size) (⟨#[45, 82, 69, 65, 68, 79, 78, 76, 89]⟩ : ByteArray) t110 _ A11.out).mono ?_); rintro e w' ⟨rfl, ⟨nd, rfl⟩⟩; (try first | exact ⟨rfl, _, World.drewN_drewN _ _ _⟩ | exact ⟨rfl, _, Eq.trans (World.drewN_drewN _ _ _) (congrArg (World.drewN _) (Nat.add_assoc _ _ _))⟩)))
              repeat (go_quiet (first | (go_at_call 10; (with_reducible refine (spec_holds.calls kj1 a0 (⟨#[117, 110, 97, 117, 116, 104, 101, 110, 116, 105, 99, 97, 116, 101, 100]⟩ : ByteArray) false _ A8.out).mono ?_); rintro e w' ⟨rfl, ⟨nd, rfl⟩⟩; (try first | exact ⟨rfl, _, World.drewN_drewN _ _ _⟩ | exact ⟨rfl, _, Eq.trans (World.drewN_drewN _ _ _) (congrArg (World.drewN _) (Nat.add_assoc _ _ _))⟩)) | (go_at_call 10; (with_reducible refine (spec_holds.calls kj1 (a0.extract 1 a0.size) (⟨#[45, 82, 69, 65, 68, 79, 78, 76, 89]⟩ : ByteArray) t110 _ A11.out).mono ?_); rintro e w' ⟨rfl, ⟨nd, rfl⟩⟩; (try first | exact ⟨rfl, _, World.drewN_drewN _ _ _⟩ | exact ⟨rfl, _, Eq.trans (World.drewN_drewN _ _ _) (congrArg (World.drewN _) (Nat.add_assoc _ _ _))⟩))); try go_wp2_with (first | (go_at_call 10; (with_reducible refine (spec_holds.calls kj1 a0 (⟨#[117, 110, 97, 117, 116, 104, 101, 110, 116, 105, 99, 97, 116, 101, 100]⟩ : ByteArray) false _ A8.out).mono ?_); rintro e w' ⟨rfl, ⟨nd, rfl⟩⟩; (try first | exact ⟨rfl, _, World.drewN_drewN _ _ _⟩ | exact ⟨rfl, _, Eq.trans (World.drewN_drewN _ _ _) (congrArg (World.drewN _) (Nat.add_assoc _ _ _))⟩)) | (go_at_call 10; (with_reducible refine (spec_holds.calls kj1 (a0.extract 1 a0.size) (⟨#[45, 82, 69, 65, 68, 79, 78, 76, 89]⟩ : ByteArray) t110 _ A11.out).mono ?_); rintro e w' ⟨rfl, ⟨nd, rfl⟩⟩; (try first | exact ⟨rfl, _, World.drewN_drewN _ _ _⟩ | exact ⟨rfl, _, Eq.trans (World.drewN_drewN _ _ _) (congrArg (World.drewN _) (Nat.add_assoc _ _ _))⟩))))
              go_meet
              case rel => exact ⟨_, (t110), (by first | rfl | (simp; done) | (simp [*]; done)), H', ⟨by have := HJ1.out; first | omega | exact Nat.le_refl _⟩, ⟨by repeat (first | (with_reducible first | exact HB.out | apply below_alloc | apply pw_below_drewN | apply below_drew1) | exact HB.out)⟩⟩
            · rw [if_neg c10] at H
              exact absurd H (by simp)
        case rest =>
          clear HC7
          try clear c1
          try clear p2
          try clear c4
          try clear c6
          try clear c9
          try clear c10
          try clear c10b0
          try clear c10b1
          try clear p2
          obtain ⟨kq, x20_6, rfl, HA, HJ6, HB⟩ := hcut
          cases kq with
          | zero => exact absurd HA.out (by simp [spec_ErrorKind.j1])
          | succ kj6 =>
            have H := HA.out
            clear HA
            simp only [spec_ErrorKind.j1] at H
            by_cases c12 : x20_6 = true
            · subst c12
              have H1 : (some ((⟨#[]⟩ : ByteArray), (⟨#[]⟩ : ByteArray), 2)) = some (r1, r2, r3) := by rw [if_pos rfl] at H; exact H
              clear H
              have H := H1
              clear H1
              simp only [Option.some.injEq, Prod.mk.injEq] at H
              obtain ⟨rfl, rfl, rfl⟩ := H
              go_wp2
              repeat (go_quiet (fail); try go_wp2)
              go_ret3
              exact ⟨by first | rfl | (simp [errW_none, errW_some] <;> rfl) | (simp [*, errW_none, errW_some] <;> rfl), by repeat (first | (with_reducible first | exact HB.out | apply below_alloc | apply pw_below_drewN | apply below_drew1) | exact HB.out)⟩
            · replace c12 := Bool.eq_false_iff.mpr c12
              subst c12
              have H1 : ((spec_begins.f a0 (⟨#[45, 69, 82, 82, 32, 109, 97, 120, 32, 110, 117, 109, 98, 101, 114, 32, 111, 102, 32, 99, 108, 105, 101, 110, 116, 115, 32, 114, 101, 97, 99, 104, 101, 100]⟩ : ByteArray)).bind fun t111 => (if t111 = true then (some ((⟨#[77, 97, 120, 67, 108, 105, 101, 110, 116, 115]⟩ : ByteArray), (⟨#[]⟩ : ByteArray), 1)) else (if 1 ≤ (a0.size : Int) then ((spec_words.f kj6 (a0.extract 1 a0.size)).bind fun t112 => (if 0 < (t112.length : Int) then ((spec_kindOf.f kj6 (rdOf ByteArray.empty t112 0)).bind fun t116 => (if t116.toList = ([] : List UInt8) then (spec_ErrorKind.j2 kj6 t116 t112 true) else (spec_ErrorKind.j2 kj6 t116 t112 ((t112.length : Int) == 1)))) else (none))) else (none)))) = some (r1, r2, r3) := by rw [if_neg (show ¬ (false = true) by decide)] at H; exact H
              clear H
              have H := H1
              clear H1
              replace H := Option.bind_eq_some_iff.mp H
              obtain ⟨t111, A130, H⟩ := H
              replace H : (if t111 = true then (some ((⟨#[77, 97, 120, 67, 108, 105, 101, 110, 116, 115]⟩ : ByteArray), (⟨#[]⟩ : ByteArray), 1)) else (if 1 ≤ (a0.size : Int) then ((spec_words.f kj6 (a0.extract 1 a0.size)).bind fun t112 => (if 0 < (t112.length : Int) then ((spec_kindOf.f kj6 (rdOf ByteArray.empty t112 0)).bind fun t116 => (if t116.toList = ([] : List UInt8) then (spec_ErrorKind.j2 kj6 t116 t112 true) else (spec_ErrorKind.j2 kj6 t116 t112 ((t112.length : Int) == 1)))) else (none))) else (none))) = some (r1, r2, r3) := H
              have A13 := Aside0.mk A130
              clear A130
              by_cases c14 : t111 = true
              · subst c14
                have H1 : (some ((⟨#[77, 97, 120, 67, 108, 105, 101, 110, 116, 115]⟩ : ByteArray), (⟨#[]⟩ : ByteArray), 1)) = some (r1, r2, r3) := by rw [if_pos rfl] at H; exact H
                clear H
                have H := H1
                clear H1
                simp only [Option.some.injEq, Prod.mk.injEq] at H
                obtain ⟨rfl, rfl, rfl⟩ := H
                go_wp2_with (first | (go_at_call 8; (with_reducible refine (spec_begins.calls a0 (⟨#[45, 69, 82, 82, 32, 109, 97, 120, 32, 110, 117, 109, 98, 101, 114, 32, 111, 102, 32, 99, 108, 105, 101, 110, 116, 115, 32, 114, 101, 97, 99, 104, 101, 100]⟩ : ByteArray) true _ A13.out).mono ?_); rintro e w' ⟨rfl, ⟨nd, rfl⟩⟩; (try first | exact ⟨rfl, _, World.drewN_drewN _ _ _⟩ | exact ⟨rfl, _, Eq.trans (World.drewN_drewN _ _ _) (congrArg (World.drewN _) (Nat.add_assoc _ _ _))⟩)))
                repeat (go_quiet (first | (go_at_call 8; (with_reducible refine (spec_begins.calls a0 (⟨#[45, 69, 82, 82, 32, 109, 97, 120, 32, 110, 117, 109, 98, 101, 114, 32, 111, 102, 32, 99, 108, 105, 101, 110, 116, 115, 32, 114, 101, 97, 99, 104, 101, 100]⟩ : ByteArray) true _ A13.out).mono ?_); rintro e w' ⟨rfl, ⟨nd, rfl⟩⟩; (try first | exact ⟨rfl, _, World.drewN_drewN _ _ _⟩ | exact ⟨rfl, _, Eq.trans (World.drewN_drewN _ _ _) (congrArg (World.drewN _) (Nat.add_assoc _ _ _))⟩))); try go_wp2_with (first | (go_at_call 8; (with_reducible refine (spec_begins.calls a0 (⟨#[45, 69, 82, 82, 32, 109, 97, 120, 32, 110, 117, 109, 98, 101, 114, 32, 111, 102, 32, 99, 108, 105, 101, 110, 116, 115, 32, 114, 101, 97, 99, 104, 101, 100]⟩ : ByteArray) true _ A13.out).mono ?_); rintro e w' ⟨rfl, ⟨nd, rfl⟩⟩; (try first | exact ⟨rfl, _, World.drewN_drewN _ _ _⟩ | exact ⟨rfl, _, Eq.trans (World.drewN_drewN _ _ _) (congrArg (World.drewN _) (Nat.add_assoc _ _ _))⟩))))
                go_ret3
                exact ⟨by first | rfl | (simp [errW_none, errW_some] <;> rfl) | (simp [*, errW_none, errW_some] <;> rfl), by repeat (first | (with_reducible first | exact HB.out | apply below_alloc | apply pw_below_drewN | apply below_drew1) | exact HB.out)⟩
              · replace c14 := Bool.eq_false_iff.mpr c14
                subst c14
                have H1 : (if 1 ≤ (a0.size : Int) then ((spec_words.f kj6 (a0.extract 1 a0.size)).bind fun t112 => (if 0 < (t112.length : Int) then ((spec_kindOf.f kj6 (rdOf ByteArray.empty t112 0)).bind fun t116 => (if t116.toList = ([] : List UInt8) then (spec_ErrorKind.j2 kj6 t116 t112 true) else (spec_ErrorKind.j2 kj6 t116 t112 ((t112.length : Int) == 1)))) else (none))) else (none)) = some (r1, r2, r3) := by rw [if_neg (show ¬ (false = true) by decide)] at H; exact H
                clear H
                have H := H1
                clear H1
                by_cases c15 : 1 ≤ (a0.size : Int)
                · rw [if_pos c15] at H
                  have c15b0 := eq_true c15
                  have c15b1 : decide (1 ≤ (a0.size : Int)) = true := decide_eq_true c15
                  clear c15
                  replace H := Option.bind_eq_some_iff.mp H
                  obtain ⟨t112, A160, H⟩ := H
                  replace H : (if 0 < (t112.length : Int) then ((spec_kindOf.f kj6 (rdOf ByteArray.empty t112 0)).bind fun t116 => (if t116.toList = ([] : List UInt8) then (spec_ErrorKind.j2 kj6 t116 t112 true) else (spec_ErrorKind.j2 kj6 t116 t112 ((t112.length : Int) == 1)))) else (none)) = some (r1, r2, r3) := H
                  have A16 := Aside0.mk A160
                  clear A160
                  by_cases c17 : 0 < (t112.length : Int)
                  · rw [if_pos c17] at H
                    have c17b0 : decide (0 < (t112.length : Int)) = true := decide_eq_true c17
                    have c17b1 : decide (0 < t112.length) = true := decide_eq_true (by omega)
                    clear c17
                    replace H := Option.bind_eq_some_iff.mp H
                    obtain ⟨t116, A180, H⟩ := H
                    replace H : (if t116.toList = ([] : List UInt8) then (spec_ErrorKind.j2 kj6 t116 t112 true) else (spec_ErrorKind.j2 kj6 t116 t112 ((t112.length : Int) == 1))) = some (r1, r2, r3) := H
                    have A18 := Aside0.mk A180
                    clear A180
                    have HC19 := Aside0.mk H
                    clear H
                    go_upto_region 9 with (first | (go_at_call 8; (with_reducible refine (spec_begins.calls a0 (⟨#[45, 69, 82, 82, 32, 109, 97, 120, 32, 110, 117, 109, 98, 101, 114, 32, 111, 102, 32, 99, 108, 105, 101, 110, 116, 115, 32, 114, 101, 97, 99, 104, 101, 100]⟩ : ByteArray) false _ A13.out).mono ?_); rintro e w' ⟨rfl, ⟨nd, rfl⟩⟩; (try first | exact ⟨rfl, _, World.drewN_drewN _ _ _⟩ | exact ⟨rfl, _, Eq.trans (World.drewN_drewN _ _ _) (congrArg (World.drewN _) (Nat.add_assoc _ _ _))⟩)) | (go_at_call 11; (with_reducible refine (spec_words.calls kj6 (a0.extract 1 a0.size) t112 _ A16.out).mono ?_); rintro e w20 ⟨v113, rfl, ho0, hb⟩; have n0_ := Aside0.mk (Kd.R_lower ho0 (below_size (by repeat (first | (with_reducible first | exact HB.out | apply below_alloc | apply pw_below_drewN | apply below_drew1) | exact HB.out)))); have n1_ := Aside0.mk (below_step (by repeat (first | (with_reducible first | exact HB.out | apply below_alloc | apply pw_below_drewN | apply below_drew1) | exact HB.out)) hb); clear HB; have HO114 := n0_; have HB := n1_; clear n0_ n1_; (try clear hb); (try clear hb2); (try clear hk); (try clear hi); (try clear ho0); obtain ⟨Ao21, co21, eo21⟩ := Kd.R_slice HO114.out; subst eo21; have p115 : 0 ≤ (0 : Int) := (by omega); have q115 : 0 < (t112.length : Int) := of_decide_eq_true (by first | (with_reducible assumption) | assumption); obtain ⟨ad115, e115, hx115_0⟩ := Kd.at_string (Kd.R_reads' HO114.out).2.2 0 p115 q115; cases e115; have qi115 : (0 < t112.length) = True := eq_true (by omega); (try rw [show ((0 : Int)).toNat = 0 from rfl] at hx115_0); (try rw [Addr.add_zero'] at hx115_0); replace p115 := eq_true p115; replace q115 := eq_true q115) | (go_at_call 12; (with_reducible refine (spec_kindOf.calls kj6 (rdOf ByteArray.empty t112 0) t116 _ A18.out).mono ?_); rintro e w' ⟨rfl, ⟨nd, rfl⟩⟩; (try first | exact ⟨rfl, _, World.drewN_drewN _ _ _⟩ | exact ⟨rfl, _, Eq.trans (World.drewN_drewN _ _ _) (congrArg (World.drewN _) (Nat.add_assoc _ _ _))⟩)))
                    repeat (go_quiet (first | (go_at_call 8; (with_reducible refine (spec_begins.calls a0 (⟨#[45, 69, 82, 82, 32, 109, 97, 120, 32, 110, 117, 109, 98, 101, 114, 32, 111, 102, 32, 99, 108, 105, 101, 110, 116, 115, 32, 114, 101, 97, 99, 104, 101, 100]⟩ : ByteArray) false _ A13.out).mono ?_); rintro e w' ⟨rfl, ⟨nd, rfl⟩⟩; (try first | exact ⟨rfl, _, World.drewN_drewN _ _ _⟩ | exact ⟨rfl, _, Eq.trans (World.drewN_drewN _ _ _) (congrArg (World.drewN _) (Nat.add_assoc _ _ _))⟩)) | (go_at_call 11; (with_reducible refine (spec_words.calls kj6 (a0.extract 1 a0.size) t112 _ A16.out).mono ?_); rintro e w20 ⟨v113, rfl, ho0, hb⟩; have n0_ := Aside0.mk (Kd.R_lower ho0 (below_size (by repeat (first | (with_reducible first | exact HB.out | apply below_alloc | apply pw_below_drewN | apply below_drew1) | exact HB.out)))); have n1_ := Aside0.mk (below_step (by repeat (first | (with_reducible first | exact HB.out | apply below_alloc | apply pw_below_drewN | apply below_drew1) | exact HB.out)) hb); clear HB; have HO114 := n0_; have HB := n1_; clear n0_ n1_; (try clear hb); (try clear hb2); (try clear hk); (try clear hi); (try clear ho0); obtain ⟨Ao21, co21, eo21⟩ := Kd.R_slice HO114.out; subst eo21; have p115 : 0 ≤ (0 : Int) := (by omega); have q115 : 0 < (t112.length : Int) := of_decide_eq_true (by first | (with_reducible assumption) | assumption); obtain ⟨ad115, e115, hx115_0⟩ := Kd.at_string (Kd.R_reads' HO114.out).2.2 0 p115 q115; cases e115; have qi115 : (0 < t112.length) = True := eq_true (by omega); (try rw [show ((0 : Int)).toNat = 0 from rfl] at hx115_0); (try rw [Addr.add_zero'] at hx115_0); replace p115 := eq_true p115; replace q115 := eq_true q115) | (go_at_call 12; (with_reducible refine (spec_kindOf.calls kj6 (rdOf ByteArray.empty t112 0) t116 _ A18.out).mono ?_); rintro e w' ⟨rfl, ⟨nd, rfl⟩⟩; (try first | exact ⟨rfl, _, World.drewN_drewN _ _ _⟩ | exact ⟨rfl, _, Eq.trans (World.drewN_drewN _ _ _) (congrArg (World.drewN _) (Nat.add_assoc _ _ _))⟩))); go_upto_region 9 with (first | (go_at_call 8; (with_reducible refine (spec_begins.calls a0 (⟨#[45, 69, 82, 82, 32, 109, 97, 120, 32, 110, 117, 109, 98, 101, 114, 32, 111, 102, 32, 99, 108, 105, 101, 110, 116, 115, 32, 114, 101, 97, 99, 104, 101, 100]⟩ : ByteArray) false _ A13.out).mono ?_); rintro e w' ⟨rfl, ⟨nd, rfl⟩⟩; (try first | exact ⟨rfl, _, World.drewN_drewN _ _ _⟩ | exact ⟨rfl, _, Eq.trans (World.drewN_drewN _ _ _) (congrArg (World.drewN _) (Nat.add_assoc _ _ _))⟩)) | (go_at_call 11; (with_reducible refine (spec_words.calls kj6 (a0.extract 1 a0.size) t112 _ A16.out).mono ?_); rintro e w20 ⟨v113, rfl, ho0, hb⟩; have n0_ := Aside0.mk (Kd.R_lower ho0 (below_size (by repeat (first | (with_reducible first | exact HB.out | apply below_alloc | apply pw_below_drewN | apply below_drew1) | exact HB.out)))); have n1_ := Aside0.mk (below_step (by repeat (first | (with_reducible first | exact HB.out | apply below_alloc | apply pw_below_drewN | apply below_drew1) | exact HB.out)) hb); clear HB; have HO114 := n0_; have HB := n1_; clear n0_ n1_; (try clear hb); (try clear hb2); (try clear hk); (try clear hi); (try clear ho0); obtain ⟨Ao21, co21, eo21⟩ := Kd.R_slice HO114.out; subst eo21; have p115 : 0 ≤ (0 : Int) := (by omega); have q115 : 0 < (t112.length : Int) := of_decide_eq_true (by first | (with_reducible assumption) | assumption); obtain ⟨ad115, e115, hx115_0⟩ := Kd.at_string (Kd.R_reads' HO114.out).2.2 0 p115 q115; cases e115; have qi115 : (0 < t112.length) = True := eq_true (by omega); (try rw [show ((0 : Int)).toNat = 0 from rfl] at hx115_0); (try rw [Addr.add_zero'] at hx115_0); replace p115 := eq_true p115; replace q115 := eq_true q115) | (go_at_call 12; (with_reducible refine (spec_kindOf.calls kj6 (rdOf ByteArray.empty t112 0) t116 _ A18.out).mono ?_); rintro e w' ⟨rfl, ⟨nd, rfl⟩⟩; (try first | exact ⟨rfl, _, World.drewN_drewN _ _ _⟩ | exact ⟨rfl, _, Eq.trans (World.drewN_drewN _ _ _) (congrArg (World.drewN _) (Nat.add_assoc _ _ _))⟩))))
                    (try simp only [Act.put, List.setIfInBounds_toArray, List.set_cons_zero, List.set_cons_succ])
                    go_cut [30] (fun v30 wc => ∃ (kq : Nat) (x30_18 : Bool), v30 = .bool x30_18 ∧ Aside0 (spec_ErrorKind.j2 kq t116 t112 x30_18 = some (r1, r2, r3)) ∧ Aside0 (kq ≤ kj6) ∧ Aside0 (Kd.R Kd.string 9 wc w.heap.size (fun _ => True) (.slice (some ad115) t112.length co21) t112) ∧ Aside0 (Below w.heap.size w wc))
                    case first =>
                      have H := HC19.out
                      clear HC19
                      by_cases c22 : t116.toList = ([] : List UInt8)
                      · rw [if_pos c22] at H
                        have c22b0 : (t116.toList == ([] : List UInt8)) = true := beq_iff_eq.mpr c22
                        have c22b1 : (t116.toList != ([] : List UInt8)) = false := bne_eq_false_iff_eq.mpr c22
                        clear c22
                        (first | rw [c22b0] | (simp only [i64_w, i32_w]; rw [c22b0]) | skip)
                        have H' := Aside0.mk H
                        clear H
                        go_wp2
                        repeat (go_quiet (fail); try go_wp2)
                        go_meet
                        case rel => exact ⟨_, (true), (by first | rfl | (simp; done) | (simp [*]; done)), H', ⟨by have := HJ1.out; have := HJ6.out; first | omega | exact Nat.le_refl _⟩, ⟨by (with_reducible repeat (first | apply Kd.R_alloc | apply Kd.R_drewN | apply Kd.R_drew)); exact HO114.out⟩, ⟨by repeat (first | (with_reducible first | exact HB.out | apply below_alloc | apply pw_below_drewN | apply below_drew1) | exact HB.out)⟩⟩
                      · rw [if_neg c22] at H
                        have c22b0 : (t116.toList == ([] : List UInt8)) = false := beq_eq_false_iff_ne.mpr c22
                        have c22b1 : (t116.toList != ([] : List UInt8)) = true := bne_iff_ne.mpr c22
                        (first | rw [c22b0] | (simp only [i64_w, i32_w]; rw [c22b0]) | skip)
                        have H' := Aside0.mk H
                        clear H
                        go_wp2
                        repeat (go_quiet (fail); try go_wp2)
                        go_meet
                        case rel => exact ⟨_, (((t112.length : Int) == 1)), (by first | rfl | (simp; done) | (simp [*]; done)), H', ⟨by have := HJ1.out; have := HJ6.out; first | omega | exact Nat.le_refl _⟩, ⟨by (with_reducible repeat (first | apply Kd.R_alloc | apply Kd.R_drewN | apply Kd.R_drew)); exact HO114.out⟩, ⟨by repeat (first | (with_reducible first | exact HB.out | apply below_alloc | apply pw_below_drewN | apply below_drew1) | exact HB.out)⟩⟩
                    case rest =>
                      clear HC19
                      try clear c1
                      try clear p1
                      try clear q1
                      try clear hx1
                      try clear qi1
                      try clear c2
                      try clear p2
                      try clear c4
                      try clear c6
                      try clear c9
                      try clear c10
                      try clear c10b0
                      try clear c10b1
                      try clear p11
                      try clear q11
                      try clear hx11
                      try clear qi11
                      try clear c12
                      try clear c14
                      try clear c15
                      try clear c15b0
                      try clear c15b1
                      try clear c17
                      try clear c17b0
                      try clear c17b1
                      try clear c22
                      try clear c22b0
                      try clear c22b1
                      try clear hx115_0
                      try clear p115
                      try clear p2
                      try clear q115
                      obtain ⟨kq, x30_18, rfl, HA, HJ18, HO_5, HB⟩ := hcut
                      cases kq with
                      | zero => exact absurd HA.out (by simp [spec_ErrorKind.j2])
                      | succ kj18 =>
                        have H := HA.out
                        clear HA
                        simp only [spec_ErrorKind.j2] at H
                        by_cases c23 : x30_18 = true
                        · subst c23
                          have H1 : (some ((⟨#[]⟩ : ByteArray), (⟨#[]⟩ : ByteArray), 1)) = some (r1, r2, r3) := by rw [if_pos rfl] at H; exact H
                          clear H
                          have H := H1
                          clear H1
                          simp only [Option.some.injEq, Prod.mk.injEq] at H
                          obtain ⟨rfl, rfl, rfl⟩ := H
                          go_wp2
                          repeat (go_quiet (fail); try go_wp2)
                          go_ret3
                          exact ⟨by first | rfl | (simp [errW_none, errW_some] <;> rfl) | (simp [*, errW_none, errW_some] <;> rfl), by repeat (first | (with_reducible first | exact HB.out | apply below_alloc | apply pw_below_drewN | apply below_drew1) | exact HB.out)⟩
                        · replace c23 := Bool.eq_false_iff.mpr c23
                          subst c23
                          have H1 : (if t116.toList = ([77, 111, 118, 101, 100] : List UInt8) then (spec_ErrorKind.j3 kj18 t116 t112 false) else (spec_ErrorKind.j3 kj18 t116 t112 (t116.toList != ([65, 115, 107] : List UInt8)))) = some (r1, r2, r3) := by rw [if_neg (show ¬ (false = true) by decide)] at H; exact H
                          clear H
                          have H := H1
                          clear H1
                          have HC24 := Aside0.mk H
                          clear H
                          go_upto_region 11 with (fail)
                          repeat (go_quiet (fail); go_upto_region 11 with (fail))
                          go_cut [38] (fun v38 wc => ∃ (kq : Nat) (x38_23 : Bool), v38 = .bool x38_23 ∧ Aside0 (spec_ErrorKind.j3 kq t116 t112 x38_23 = some (r1, r2, r3)) ∧ Aside0 (kq ≤ kj18) ∧ Aside0 (Kd.R Kd.string 9 wc w.heap.size (fun _ => True) (.slice (some ad115) t112.length co21) t112) ∧ Aside0 (Below w.heap.size w wc))
                          case first =>
                            have H := HC24.out
                            clear HC24
                            by_cases c25 : t116.toList = ([77, 111, 118, 101, 100] : List UInt8)
                            · rw [if_pos c25] at H
                              have c25b0 : (t116.toList == ([77, 111, 118, 101, 100] : List UInt8)) = true := beq_iff_eq.mpr c25
                              have c25b1 : (t116.toList != ([77, 111, 118, 101, 100] : List UInt8)) = false := bne_eq_false_iff_eq.mpr c25
                              clear c25
                              (first | rw [c25b0] | (simp only [i64_w, i32_w]; rw [c25b0]) | skip)
                              have H' := Aside0.mk H
                              clear H
                              go_wp2
                              repeat (go_quiet (fail); try go_wp2)
                              go_meet
                              case rel => exact ⟨_, (false), (by first | rfl | (simp; done) | (simp [*]; done)), H', ⟨by have := HJ1.out; have := HJ6.out; have := HJ18.out; first | omega | exact Nat.le_refl _⟩, ⟨by (with_reducible repeat (first | apply Kd.R_alloc | apply Kd.R_drewN | apply Kd.R_drew)); exact HO_5.out⟩, ⟨by repeat (first | (with_reducible first | exact HB.out | apply below_alloc | apply pw_below_drewN | apply below_drew1) | exact HB.out)⟩⟩
                            · rw [if_neg c25] at H
                              have c25b0 : (t116.toList == ([77, 111, 118, 101, 100] : List UInt8)) = false := beq_eq_false_iff_ne.mpr c25
                              have c25b1 : (t116.toList != ([77, 111, 118, 101, 100] : List UInt8)) = true := bne_iff_ne.mpr c25
                              (first | rw [c25b0] | (simp only [i64_w, i32_w]; rw [c25b0]) | skip)
                              have H' := Aside0.mk H
                              clear H
                              go_wp2
                              repeat (go_quiet (fail); try go_wp2)
                              go_meet
                              case rel => exact ⟨_, ((t116.toList != ([65, 115, 107] : List UInt8))), (by first | rfl | (simp; done) | (simp [*]; done)), H', ⟨by have := HJ1.out; have := HJ6.out; have := HJ18.out; first | omega | exact Nat.le_refl _⟩, ⟨by (with_reducible repeat (first | apply Kd.R_alloc | apply Kd.R_drewN | apply Kd.R_drew)); exact HO_5.out⟩, ⟨by repeat (first | (with_reducible first | exact HB.out | apply below_alloc | apply pw_below_drewN | apply below_drew1) | exact HB.out)⟩⟩
                          case rest =>
                            clear HC24
                            try clear c1
                            try clear p1
                            try clear q1
                            try clear hx1
                            try clear qi1
                            try clear c2
                            try clear p2
                            try clear c4
                            try clear c6
                            try clear c9
                            try clear c10
                            try clear c10b0
                            try clear c10b1
                            try clear p11
                            try clear q11
                            try clear hx11
                            try clear qi11
                            try clear c12
                            try clear c14
                            try clear c15
                            try clear c15b0
                            try clear c15b1
                            try clear c17
                            try clear c17b0
                            try clear c17b1
                            try clear c22
                            try clear c22b0
                            try clear c22b1
                            try clear c23
                            try clear c25
                            try clear c25b0
                            try clear c25b1
                            try clear hx115_0
                            try clear p1
                            try clear p11
                            try clear p115
                            try clear p2
                            try clear q1
                            try clear q11
                            try clear q115
                            obtain ⟨kq, x38_23, rfl, HA, HJ23, HO_5, HB⟩ := hcut
                            cases kq with
                            | zero => exact absurd HA.out (by simp [spec_ErrorKind.j3])
                            | succ kj23 =>
                              have H := HA.out
                              clear HA
                              simp only [spec_ErrorKind.j3] at H
                              by_cases c26 : x38_23 = true
                              · subst c26
                                have H1 : (some (t116, (⟨#[]⟩ : ByteArray), 1)) = some (r1, r2, r3) := by rw [if_pos rfl] at H; exact H
                                clear H
                                have H := H1
                                clear H1
                                simp only [Option.some.injEq, Prod.mk.injEq] at H
                                obtain ⟨rfl, rfl, rfl⟩ := H
                                go_wp2
                                repeat (go_quiet (fail); try go_wp2)
                                go_ret3
                                exact ⟨by first | rfl | (simp [errW_none, errW_some] <;> rfl) | (simp [*, errW_none, errW_some] <;> rfl), by repeat (first | (with_reducible first | exact HB.out | apply below_alloc | apply pw_below_drewN | apply below_drew1) | exact HB.out)⟩
                              · replace c26 := Bool.eq_false_iff.mpr c26
                                subst c26
                                have H1 : (if (t112.length : Int) = 3 then (if 1 < (t112.length : Int) then (if (rdOf ByteArray.empty t112 1).toList = ([] : List UInt8) then (some ((⟨#[]⟩ : ByteArray), (⟨#[]⟩ : ByteArray), 2)) else (if 2 < (t112.length : Int) then (if (rdOf ByteArray.empty t112 2).toList = ([] : List UInt8) then (some ((⟨#[]⟩ : ByteArray), (⟨#[]⟩ : ByteArray), 2)) else (some (t116, rdOf ByteArray.empty t112 2, 1))) else (none))) else (none)) else (some ((⟨#[]⟩ : ByteArray), (⟨#[]⟩ : ByteArray), 2))) = some (r1, r2, r3) := by rw [if_neg (show ¬ (false = true) by decide)] at H; exact H
                                clear H
                                have H := H1
                                clear H1
                                by_cases c27 : (t112.length : Int) = 3
                                · rw [if_pos c27] at H
                                  have c27b0 : ((t112.length : Int) == 3) = true := beq_iff_eq.mpr c27
                                  have c27b1 : ((t112.length : Int) != 3) = false := bne_eq_false_iff_eq.mpr c27
                                  clear c27
                                  by_cases c28 : 1 < (t112.length : Int)
                                  · rw [if_pos c28] at H
                                    have c28b0 : decide (1 < (t112.length : Int)) = true := decide_eq_true c28
                                    have c28b1 : decide (1 < t112.length) = true := decide_eq_true (by omega)
                                    clear c28
                                    by_cases c29 : (rdOf ByteArray.empty t112 1).toList = ([] : List UInt8)
                                    · rw [if_pos c29] at H
                                      have c29b0 : ((rdOf ByteArray.empty t112 1).toList == ([] : List UInt8)) = true := beq_iff_eq.mpr c29
                                      have c29b1 : ((rdOf ByteArray.empty t112 1).toList != ([] : List UInt8)) = false := bne_eq_false_iff_eq.mpr c29
                                      clear c29
                                      simp only [Option.some.injEq, Prod.mk.injEq] at H
                                      obtain ⟨rfl, rfl, rfl⟩ := H
                                      have p117 : 0 ≤ (1 : Int) := (by omega)
                                      have q117 : 1 < (t112.length : Int) := of_decide_eq_true (by first | (with_reducible assumption) | assumption)
                                      obtain ⟨ad117, e117, hx117_0⟩ := Kd.at_string (Kd.R_reads' HO_5.out).2.2 1 p117 q117
                                      obtain rfl : ad115 = ad117 := (by injection e117)
                                      (try simp only [show (1 : Int).toNat = 1 from rfl, Nat.reduceMul, Nat.reduceEqDiff, Go.Addr.add, ↓reduceIte] at hx117_0)
                                      have qi117 : (1 < t112.length) = True := eq_true (by omega)
                                      (try rw [show ((1 : Int)).toNat = 1 from rfl] at hx117_0)
                                      replace p117 := eq_true p117
                                      replace q117 := eq_true q117
                                      go_wp2
                                      repeat (go_quiet (fail); try go_wp2)
                                      go_ret3
                                      exact ⟨by first | rfl | (simp [errW_none, errW_some] <;> rfl) | (simp [*, errW_none, errW_some] <;> rfl), by repeat (first | (with_reducible first | exact HB.out | apply below_alloc | apply pw_below_drewN | apply below_drew1) | exact HB.out)⟩
                                    · rw [if_neg c29] at H
                                      have c29b0 : ((rdOf ByteArray.empty t112 1).toList == ([] : List UInt8)) = false := beq_eq_false_iff_ne.mpr c29
                                      have c29b1 : ((rdOf ByteArray.empty t112 1).toList != ([] : List UInt8)) = true := bne_iff_ne.mpr c29
                                      by_cases c30 : 2 < (t112.length : Int)
                                      · rw [if_pos c30] at H
                                        have c30b0 : decide (2 < (t112.length : Int)) = true := decide_eq_true c30
                                        have c30b1 : decide (2 < t112.length) = true := decide_eq_true (by omega)
                                        clear c30
                                        by_cases c31 : (rdOf ByteArray.empty t112 2).toList = ([] : List UInt8)
                                        · rw [if_pos c31] at H
                                          have c31b0 : ((rdOf ByteArray.empty t112 2).toList == ([] : List UInt8)) = true := beq_iff_eq.mpr c31
                                          have c31b1 : ((rdOf ByteArray.empty t112 2).toList != ([] : List UInt8)) = false := bne_eq_false_iff_eq.mpr c31
                                          clear c31
                                          simp only [Option.some.injEq, Prod.mk.injEq] at H
                                          obtain ⟨rfl, rfl, rfl⟩ := H
                                          have p117 : 0 ≤ (1 : Int) := (by omega)
                                          have q117 : 1 < (t112.length : Int) := of_decide_eq_true (by first | (with_reducible assumption) | assumption)
                                          obtain ⟨ad117, e117, hx117_0⟩ := Kd.at_string (Kd.R_reads' HO_5.out).2.2 1 p117 q117
                                          obtain rfl : ad115 = ad117 := (by injection e117)
                                          (try simp only [show (1 : Int).toNat = 1 from rfl, Nat.reduceMul, Nat.reduceEqDiff, Go.Addr.add, ↓reduceIte] at hx117_0)
                                          have qi117 : (1 < t112.length) = True := eq_true (by omega)
                                          (try rw [show ((1 : Int)).toNat = 1 from rfl] at hx117_0)
                                          replace p117 := eq_true p117
                                          replace q117 := eq_true q117
                                          have p118 : 0 ≤ (2 : Int) := (by omega)
                                          have q118 : 2 < (t112.length : Int) := of_decide_eq_true (by first | (with_reducible assumption) | assumption)
                                          obtain ⟨ad118, e118, hx118_0⟩ := Kd.at_string (Kd.R_reads' HO_5.out).2.2 2 p118 q118
                                          obtain rfl : ad115 = ad118 := (by injection e118)
                                          (try simp only [show (2 : Int).toNat = 2 from rfl, Nat.reduceMul, Nat.reduceEqDiff, Go.Addr.add, ↓reduceIte] at hx118_0)
                                          have qi118 : (2 < t112.length) = True := eq_true (by omega)
                                          (try rw [show ((2 : Int)).toNat = 2 from rfl] at hx118_0)
                                          replace p118 := eq_true p118
                                          replace q118 := eq_true q118
                                          go_wp2
                                          repeat (go_quiet (fail); try go_wp2)
                                          go_ret3
                                          exact ⟨by first | rfl | (simp [errW_none, errW_some] <;> rfl) | (simp [*, errW_none, errW_some] <;> rfl), by repeat (first | (with_reducible first | exact HB.out | apply below_alloc | apply pw_below_drewN | apply below_drew1) | exact HB.out)⟩
                                        · rw [if_neg c31] at H
                                          have c31b0 : ((rdOf ByteArray.empty t112 2).toList == ([] : List UInt8)) = false := beq_eq_false_iff_ne.mpr c31
                                          have c31b1 : ((rdOf ByteArray.empty t112 2).toList != ([] : List UInt8)) = true := bne_iff_ne.mpr c31
                                          simp only [Option.some.injEq, Prod.mk.injEq] at H
                                          obtain ⟨rfl, rfl, rfl⟩ := H
                                          have p117 : 0 ≤ (1 : Int) := (by omega)
                                          have q117 : 1 < (t112.length : Int) := of_decide_eq_true (by first | (with_reducible assumption) | assumption)
                                          obtain ⟨ad117, e117, hx117_0⟩ := Kd.at_string (Kd.R_reads' HO_5.out).2.2 1 p117 q117
                                          obtain rfl : ad115 = ad117 := (by injection e117)
                                          (try simp only [show (1 : Int).toNat = 1 from rfl, Nat.reduceMul, Nat.reduceEqDiff, Go.Addr.add, ↓reduceIte] at hx117_0)
                                          have qi117 : (1 < t112.length) = True := eq_true (by omega)
                                          (try rw [show ((1 : Int)).toNat = 1 from rfl] at hx117_0)
                                          replace p117 := eq_true p117
                                          replace q117 := eq_true q117
                                          have p118 : 0 ≤ (2 : Int) := (by omega)
                                          have q118 : 2 < (t112.length : Int) := of_decide_eq_true (by first | (with_reducible assumption) | assumption)
                                          obtain ⟨ad118, e118, hx118_0⟩ := Kd.at_string (Kd.R_reads' HO_5.out).2.2 2 p118 q118
                                          obtain rfl : ad115 = ad118 := (by injection e118)
                                          (try simp only [show (2 : Int).toNat = 2 from rfl, Nat.reduceMul, Nat.reduceEqDiff, Go.Addr.add, ↓reduceIte] at hx118_0)
                                          have qi118 : (2 < t112.length) = True := eq_true (by omega)
                                          (try rw [show ((2 : Int)).toNat = 2 from rfl] at hx118_0)
                                          replace p118 := eq_true p118
                                          replace q118 := eq_true q118
                                          have p119 : 0 ≤ (2 : Int) := (by omega)
                                          have q119 : 2 < (t112.length : Int) := of_decide_eq_true (by first | (with_reducible assumption) | assumption)
                                          obtain ⟨ad119, e119, hx119_0⟩ := Kd.at_string (Kd.R_reads' HO_5.out).2.2 2 p119 q119
                                          obtain rfl : ad115 = ad119 := (by injection e119)
                                          (try simp only [show (2 : Int).toNat = 2 from rfl, Nat.reduceMul, Nat.reduceEqDiff, Go.Addr.add, ↓reduceIte] at hx119_0)
                                          have qi119 : (2 < t112.length) = True := eq_true (by omega)
                                          (try rw [show ((2 : Int)).toNat = 2 from rfl] at hx119_0)
                                          replace p119 := eq_true p119
                                          replace q119 := eq_true q119
                                          go_wp2
                                          repeat (go_quiet (fail); try go_wp2)
                                          go_ret3
                                          exact ⟨by first | rfl | (simp [errW_none, errW_some] <;> rfl) | (simp [*, errW_none, errW_some] <;> rfl), by repeat (first | (with_reducible first | exact HB.out | apply below_alloc | apply pw_below_drewN | apply below_drew1) | exact HB.out)⟩
                                      · rw [if_neg c30] at H
                                        exact absurd H (by simp)
                                  · rw [if_neg c28] at H
                                    exact absurd H (by simp)
                                · rw [if_neg c27] at H
                                  have c27b0 : ((t112.length : Int) == 3) = false := beq_eq_false_iff_ne.mpr c27
                                  have c27b1 : ((t112.length : Int) != 3) = true := bne_iff_ne.mpr c27
                                  simp only [Option.some.injEq, Prod.mk.injEq] at H
                                  obtain ⟨rfl, rfl, rfl⟩ := H
                                  go_wp2
                                  repeat (go_quiet (fail); try go_wp2)
                                  go_ret3
                                  exact ⟨by first | rfl | (simp [errW_none, errW_some] <;> rfl) | (simp [*, errW_none, errW_some] <;> rfl), by repeat (first | (with_reducible first | exact HB.out | apply below_alloc | apply pw_below_drewN | apply below_drew1) | exact HB.out)⟩
                  · rw [if_neg c17] at H
                    exact absurd H (by simp)
                · rw [if_neg c15] at H
                  exact absurd H (by simp)

end Go.Proofs.YtkogipaaioibaaaGreat.PAll
