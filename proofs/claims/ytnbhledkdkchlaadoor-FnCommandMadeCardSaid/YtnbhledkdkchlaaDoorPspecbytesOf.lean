/- The Lean function of spec_bytesOf and its contract: the Go function comes to exactly what the Lean function answers (laid by the kit's print program). -/
import Derived.Test.YtnbhledkdkchlaaDoorPAllx0
namespace Go.Proofs.YtnbhledkdkchlaaDoor.PAll
open Go.RowKit Go.Proofs.YtnbhledkdkchlaaDoorW.PrintWords Go.Proofs.YtnbhledkdkchlaaDoorW.PrintLast Go.Proofs.YtnbhledkdkchlaaDoorW.PrintMore
attribute [local go_sem] max2_int min2_int max_two min_two max_three min_three max_four min_four   -- for this text's walks alone
set_option linter.unusedVariables false
set_option linter.unusedSimpArgs false


/-! ### spec_bytesOf: function 11 -/
def spec_bytesOf.l0 : Nat → Int → Int → List Int → Int → Int → Option (ByteArray)
  | 0, _, _, _, _, _ => none
  | k + 1, x0, x1, x5, x9, x10 => if x10 < x9 then (if 0 ≤ (wrap64 (8 * x10)) then (if 0 ≤ (wrap64 ((wrap64 (x1 - 1)) - x10)) then (if (wrap64 ((wrap64 (x1 - 1)) - x10)) < (x5.length : Int) then (spec_bytesOf.l0 k x0 x1 (x5.set ((wrap64 ((wrap64 (x1 - 1)) - x10)) : Int).toNat ((shr .u64 x0 (wrap64 (8 * x10))) % 256)) x9 (wrap64 (x10 + 1))) else (none)) else (none)) else (none)) else (some (strOfNums x5))
def spec_bytesOf.f (k : Nat) (a0 : Int) (a1 : Int) : Option (ByteArray) := if 0 ≤ a1 then (if (a1 : Int).toNat ≤ 281474976710656 then (spec_bytesOf.l0 k a0 a1 (List.replicate (a1 : Int).toNat 0) a1 0) else (none)) else (none)
theorem spec_bytesOf.mono_l : ∀ k, (∀ y0 y1 y2 y3 y4, LeO (spec_bytesOf.l0 k y0 y1 y2 y3 y4) (spec_bytesOf.l0 (k + 1) y0 y1 y2 y3 y4))
  | 0 => fun _ _ _ _ _ r h => by simp [spec_bytesOf.l0] at h
  | k + 1 => by
    have ih0 := spec_bytesOf.mono_l k
    · intro y0 y1 y2 y3 y4
      unfold spec_bytesOf.l0
      repeat' first
      | (with_reducible exact ih0 _ _ _ _ _)
      | (with_reducible exact LeO.refl _)
      | (with_reducible exact LeO.none _)
      | (with_reducible refine LeO.ite ?_ ?_)
      | (with_reducible refine LeO.bind ?_ (fun _ => ?_))
      | exact ih0 _ _ _ _ _
      | exact LeO.none _
      | refine LeO.ite ?_ ?_
      | refine LeO.bind ?_ (fun _ => ?_)
theorem spec_bytesOf.mono : ∀ a0 a1 k, LeO (spec_bytesOf.f k a0 a1) (spec_bytesOf.f (k + 1) a0 a1) := by
  intro a0 a1 k
  have ih0 := spec_bytesOf.mono_l k
  unfold spec_bytesOf.f
  repeat' first
      | (with_reducible exact ih0 _ _ _ _ _)
      | (with_reducible exact LeO.refl _)
      | (with_reducible exact LeO.none _)
      | (with_reducible refine LeO.ite ?_ ?_)
      | (with_reducible refine LeO.bind ?_ (fun _ => ?_))
      | exact ih0 _ _ _ _ _
      | exact LeO.none _
      | refine LeO.ite ?_ ?_
      | refine LeO.bind ?_ (fun _ => ?_)
set_option maxHeartbeats 8000000 in
set_option maxRecDepth 100000 in
theorem spec_bytesOf.calls (k : Nat) (a0 : Int) (a1 : Int) (r : ByteArray) (w : World) (h : spec_bytesOf.f k a0 a1 = some r) :
    Calls Tryd.prog 11 #[.int .u64 a0, .int .i64 a1] w fun e w' => e = .returned (.string r) ∧ Below w.heap.size w w' := by
  have HB := Aside0.mk (Below.refl w.heap.size w)
  have H : (if 0 ≤ a1 then (if (a1 : Int).toNat ≤ 281474976710656 then (spec_bytesOf.l0 k a0 a1 (List.replicate (a1 : Int).toNat 0) a1 0) else (none)) else (none)) = some r := h
  clear h
  by_cases c3 : 0 ≤ a1
  · rw [if_pos c3] at H
    have c3b0 := eq_true c3
    have c3b1 : decide (0 ≤ a1) = true := decide_eq_true c3
    clear c3
    by_cases c4 : (a1 : Int).toNat ≤ 281474976710656
    · rw [if_pos c4] at H
      have c4b0 := eq_true c4
      have c4b1 : decide ((a1 : Int).toNat ≤ 281474976710656) = true := decide_eq_true c4
      clear c4
      obtain ⟨y111, hy111⟩ : ∃ y_ : List Int, y_ = (List.replicate (a1 : Int).toNat 0) := ⟨_, rfl⟩
      replace H : (spec_bytesOf.l0 k a0 a1 y111 a1 0) = some r := by first | (rw [hy111]; with_reducible exact H) | (have H2_ := (Option.bind_some _ _).symm.trans H; rw [hy111]; with_reducible exact H2_) | (have H2_ := (Option.bind_some _ _).symm.trans H; with_reducible exact H2_) | with_reducible exact H | (rw [hy111]; exact H) | exact H
      have Ny111 := Aside0.mk hy111
      clear hy111
      have H' := Aside0.mk H
      clear H
      go_enter Tryd.func11, Tryd.ntmps11
      go_wp2_with (first | ((with_reducible refine gate_dst (N := 8) rfl ?_); refine Kd.R_make (Kd.int .u8) _ 5 rfl (N := 8) rfl 42 _ _ rfl a1 rfl rfl Tryd.underlying42 (.int .u8 0) 1 info5 rfl (by decide) (by omega) 0 (ok := fun _ => True) (okp := fun _ => True) rfl (fun _ hk => hk) trivial (of_decide_eq_true (by first | (with_reducible assumption) | assumption)) (Nat.le_trans (Nat.mul_le_mul_right _ (of_decide_eq_true (by first | (with_reducible assumption) | assumption) : a1.toNat ≤ 281474976710656)) (by omega)) (Below.refl _ _) (Nat.le_refl _) ?_; intro v112 w5 ho6 hb hg_ hnew_; clear hg_ hnew_; (first | rw [← Ny111.out] at ho6 | (simp only [Int.reduceToNat] at ho6; rw [← Ny111.out] at ho6)); have n0_ := Aside0.mk (Kd.R_lower ho6 (below_size (by repeat (first | (with_reducible first | exact HB.out | apply below_alloc | apply pw_below_drewN | apply below_drew1) | exact HB.out)))); have n1_ := Aside0.mk (below_step (by repeat (first | (with_reducible first | exact HB.out | apply below_alloc | apply pw_below_drewN | apply below_drew1) | exact HB.out)) hb); clear HB; have HO113 := n0_; have HB := n1_; clear n0_ n1_; clear hb ho6))
      go_loopg [10] k (fun kq v10 w' => ∃ (x5_1 : List Int) (x10_1 : Int), v10 = .int .i64 x10_1 ∧ Aside0 (spec_bytesOf.l0 kq a0 a1 x5_1 a1 x10_1 = some r) ∧ Aside0 (kq ≤ k) ∧ Aside0 (Kd.R (Kd.int .u8) 5 w' w.heap.size (fun _ => True) v112 x5_1) ∧ Aside0 (Below w.heap.size w w'))
      case atStart => exact ⟨(y111), (0), (by first | rfl | (simp; done) | (simp [*]; done)), H', ⟨Nat.le_refl _⟩, ⟨by (with_reducible repeat (first | apply Kd.R_alloc | apply Kd.R_drewN | apply Kd.R_drew)); exact HO113.out⟩, ⟨by repeat (first | (with_reducible first | exact HB.out | apply below_alloc | apply pw_below_drewN | apply below_drew1) | exact HB.out)⟩⟩
      case round =>
        clear H'
        try clear c1
        try clear p2
        try clear c3
        try clear c3b0
        try clear c3b1
        try clear c4
        try clear c4b0
        try clear c4b1
        obtain ⟨x5_1, x10_1, rfl, HA, HK1, HO_5, HB⟩ := hrel
        cases gk with
        | zero => exact absurd HA.out (by simp [spec_bytesOf.l0])
        | succ k1 =>
          have H := HA.out
          clear HA
          simp only [spec_bytesOf.l0] at H
          by_cases c7 : x10_1 < a1
          · rw [if_pos c7] at H
            have c7b0 : decide (x10_1 < a1) = true := decide_eq_true c7
            clear c7
            obtain ⟨ji8, hji8⟩ : ∃ j_ : Int, (wrap64 (8 * x10_1)) = j_ := ⟨_, rfl⟩
            replace H : (if 0 ≤ (ji8) then (if 0 ≤ (wrap64 ((wrap64 (a1 - 1)) - x10_1)) then (if (wrap64 ((wrap64 (a1 - 1)) - x10_1)) < (x5_1.length : Int) then (spec_bytesOf.l0 k1 a0 a1 (x5_1.set ((wrap64 ((wrap64 (a1 - 1)) - x10_1)) : Int).toNat ((shr .u64 a0 (ji8)) % 256)) a1 (wrap64 (x10_1 + 1))) else (none)) else (none)) else (none)) = some r := by first | (rw [hji8] at H; exact H) | (simp only [hji8] at H ⊢; exact H)
            have hji8w : (IntKind.i64.wrap (8 * x10_1)) = ji8 := (i64_w _).trans hji8
            by_cases c9 : 0 ≤ (ji8)
            · rw [if_pos c9] at H
              have c9b0 := eq_true c9
              have c9b1 : decide (0 ≤ (ji8)) = true := decide_eq_true c9
              clear c9
              obtain ⟨ji10, hji10⟩ : ∃ j_ : Int, (shr .u64 a0 (ji8)) = j_ := ⟨_, rfl⟩
              replace H : (if 0 ≤ (wrap64 ((wrap64 (a1 - 1)) - x10_1)) then (if (wrap64 ((wrap64 (a1 - 1)) - x10_1)) < (x5_1.length : Int) then (spec_bytesOf.l0 k1 a0 a1 (x5_1.set ((wrap64 ((wrap64 (a1 - 1)) - x10_1)) : Int).toNat ((ji10) % 256)) a1 (wrap64 (x10_1 + 1))) else (none)) else (none)) = some r := by first | (rw [hji10] at H; exact H) | (simp only [hji10] at H ⊢; exact H)
              have hji10_ : (a0 / 2 ^ min (ji8).toNat 64) = ji10 := hji10
              have hji10z : (ji8) ≤ 64 → (a0 / 2 ^ (ji8).toNat) = ji10 := shr_small hji10
              obtain ⟨ji11, hji11⟩ : ∃ j_ : Int, (wrap64 ((wrap64 (a1 - 1)) - x10_1)) = j_ := ⟨_, rfl⟩
              replace H : (if 0 ≤ (ji11) then (if (ji11) < (x5_1.length : Int) then (spec_bytesOf.l0 k1 a0 a1 (x5_1.set ((ji11) : Int).toNat ((ji10) % 256)) a1 (wrap64 (x10_1 + 1))) else (none)) else (none)) = some r := by first | (rw [hji11] at H; exact H) | (simp only [hji11] at H ⊢; exact H)
              have hji11w : (IntKind.i64.wrap ((wrap64 (a1 - 1)) - x10_1)) = ji11 := (i64_w _).trans hji11
              by_cases c12 : 0 ≤ (ji11)
              · rw [if_pos c12] at H
                have c12b0 : decide (0 ≤ (ji11)) = true := decide_eq_true c12
                clear c12
                by_cases c13 : (ji11) < (x5_1.length : Int)
                · rw [if_pos c13] at H
                  have c13b0 : decide ((ji11) < (x5_1.length : Int)) = true := decide_eq_true c13
                  clear c13
                  obtain ⟨y114, hy114⟩ : ∃ y_ : List Int, y_ = (x5_1.set ((ji11) : Int).toNat ((ji10) % 256)) := ⟨_, rfl⟩
                  replace H : (spec_bytesOf.l0 k1 a0 a1 y114 a1 (wrap64 (x10_1 + 1))) = some r := by first | (rw [hy114]; with_reducible exact H) | (have H2_ := (Option.bind_some _ _).symm.trans H; rw [hy114]; with_reducible exact H2_) | (have H2_ := (Option.bind_some _ _).symm.trans H; with_reducible exact H2_) | with_reducible exact H | (rw [hy114]; exact H) | exact H
                  have Ny114 := Aside0.mk hy114
                  clear hy114
                  have H' := Aside0.mk H
                  clear H
                  have p14 : 0 ≤ ((ji11) : Int) := of_decide_eq_true (by first | (with_reducible assumption) | assumption)
                  have q14 : ((ji11) : Int) < ((x5_1.length : Int) : Int) := of_decide_eq_true (by first | (with_reducible assumption) | assumption)
                  obtain ⟨go14, co14, eo14, gb14, gl14, cl14, HG14⟩ := Kd.R_form HO_5.out (by omega)
                  (first | cases eo14 | (injection eo14 with ea_ en_ ec_; (first | subst ea_ | (injection ea_ with ea_; subst ea_)); subst ec_; clear en_))
                  have GB14 := Aside0.mk gb14
                  have GG14 := Aside0.mk HG14
                  clear gb14 gl14 HG14
                  obtain ⟨hx14_0, hf14_0⟩ := Kd.R_celln 0 HO_5.out ((ji11) : Int) p14 q14
                  replace p14 := eq_true p14
                  replace q14 := eq_true q14
                  have HP15 := Kd.R_putg HO_5.out ((ji11) : Int) ((ji10) % 256)
                  go_wp2_with (first | ((with_reducible refine gate_store (t := 5) (p := 23) rfl ?_); refine store_event (t := 5) (p := 23) (v := ?vo_w16) (w1 := (wr.setCell ⟨go14, ((ji11) : Int).toNat, none⟩ (.int .u8 ((ji10) % 256)))) ?hg ?ho ?hn ?hr ?_; (case ho => rfl); (case hg => rfl); (case hn => rfl); (case hr => first | (go_simp; done) | (go_simp; rfl)); intro w16 hw; have hg : wr.grownBy w16 (some go14) := (by rw [hw]; exact HP15.2); have hp_ : Kd.R (Kd.int .u8) 5 w16 w.heap.size (fun _ => True) (.slice (some ⟨go14, 0, none⟩) x5_1.length co14) y114 := (by rw [hw, Ny114.out]; exact HP15.1); clear HP15; have n0_ := Aside0.mk (hp_); have n1_ := Aside0.mk ((by rw [hw]; exact below_set (HB.out) GB14.out : Below w.heap.size w w16)); clear HO_5; clear HB; have HO_5 := n0_; have HB := n1_; clear n0_ n1_; clear hg hw hp_))
                  go_roundg k1
                  case measure => have := HK1.out; omega
                  case rel => exact ⟨(y114), (wrap64 (x10_1 + 1)), (by first | rfl | (simp; done) | (simp [*]; done)), H', ⟨by have := HK1.out; omega⟩, ⟨by (with_reducible repeat (first | apply Kd.R_alloc | apply Kd.R_drewN | apply Kd.R_drew)); exact HO_5.out⟩, ⟨by repeat (first | (with_reducible first | exact HB.out | apply below_alloc | apply pw_below_drewN | apply below_drew1) | exact HB.out)⟩⟩
                · rw [if_neg c13] at H
                  exact absurd H (by simp)
              · rw [if_neg c12] at H
                exact absurd H (by simp)
            · rw [if_neg c9] at H
              exact absurd H (by simp)
          · rw [if_neg c7] at H
            have c7b0 : decide (x10_1 < a1) = false := decide_eq_false c7
            clear c7
            obtain rfl := Option.some.inj H
            have hcv17 := own_string (P := Tryd.prog) Tryd.underlying42 Tryd.underlying5 Tryd.underlying9 (Kd.own_of_R HO_5.out)
            go_wp2
            go_ret
            exact ⟨by first | rfl | (simp [errW_none, errW_some] <;> rfl) | (simp [*, errW_none, errW_some] <;> rfl), by repeat (first | (with_reducible first | exact HB.out | apply below_alloc | apply pw_below_drewN | apply below_drew1) | exact HB.out)⟩
    · rw [if_neg c4] at H
      exact absurd H (by simp)
  · rw [if_neg c3] at H
    exact absurd H (by simp)

end Go.Proofs.YtnbhledkdkchlaaDoor.PAll
